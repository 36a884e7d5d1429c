-- Written by a program of this session out of the translation (a changed copy of the kit's print); Lean checks it.
import Derived.Test.YtfpbbnllaogclaaDoorPGx0
import Derived.Test.YtfpbbnllaogclaaDoorPGx9
import Derived.Test.YtfpbbnllaogclaaDoorPGx10
namespace Go.Proofs.YtfpbbnllaogclaaDoor.PG
open Go.RowKit Go.Proofs.YtfpbbnllaogclaaDoorW.PrintWords Go.Proofs.YtfpbbnllaogclaaDoorW.PrintLast Go.Proofs.YtfpbbnllaogclaaDoorW.PrintMore
attribute [local go_sem] max2_int min2_int max_two min_two max_three min_three max_four min_four   -- for this text's walks alone
set_option linter.unusedVariables false
set_option linter.unusedSimpArgs false

/-! ### fastjson_parseRawString: function 99 -/
mutual
def fastjson_parseRawString.j0 : Nat → ByteArray → Int → Bool → Option (ByteArray × ByteArray × Option Int)
  | 0, _, _, _ => none
  | k + 1, x0, x5, x22 => if x22 = true then (if 0 ≤ x5 then (if x5 ≤ (x0.size : Int) then (if 0 ≤ (wrap64 (x5 + 1)) then (if (wrap64 (x5 + 1)) ≤ (x0.size : Int) then (some (x0.extract 0 (x5 : Int).toNat, x0.extract ((wrap64 (x5 + 1)) : Int).toNat x0.size, none)) else (none)) else (none)) else (none)) else (none)) else (fastjson_parseRawString.l0 k x0 x5 x0)
def fastjson_parseRawString.l0 : Nat → ByteArray → Int → ByteArray → Option (ByteArray × ByteArray × Option Int)
  | 0, _, _, _ => none
  | k + 1, x0, x5, x6 => fastjson_parseRawString.l1 k x0 x5 x6 (wrap64 (x5 - 1))
def fastjson_parseRawString.j3 : Nat → ByteArray → Int → ByteArray → Int → Option (ByteArray × ByteArray × Option Int)
  | 0, _, _, _, _ => none
  | k + 1, x0, x5, x6, x7 => if (Int.tmod (IntKind.u64.wrap (wrap64 (x5 - x7))) 2) = 0 then (if 0 ≤ (wrap64 ((wrap64 ((x6.size : Int) - (x0.size : Int))) + x5)) then (if (wrap64 ((wrap64 ((x6.size : Int) - (x0.size : Int))) + x5)) ≤ (x6.size : Int) then (if 0 ≤ (wrap64 (x5 + 1)) then (if (wrap64 (x5 + 1)) ≤ (x0.size : Int) then (some (x6.extract 0 ((wrap64 ((wrap64 ((x6.size : Int) - (x0.size : Int))) + x5)) : Int).toNat, x0.extract ((wrap64 (x5 + 1)) : Int).toNat x0.size, none)) else (none)) else (none)) else (none)) else (none)) else (if 0 ≤ (wrap64 (x5 + 1)) then (if (wrap64 (x5 + 1)) ≤ (x0.size : Int) then ((strings_IndexByte.f (x0.extract ((wrap64 (x5 + 1)) : Int).toNat x0.size) 34).bind fun t117 => (if t117 < 0 then ((errors_New.f (⟨#[109, 105, 115, 115, 105, 110, 103, 32, 99, 108, 111, 115, 105, 110, 103]⟩ : ByteArray)).bind fun t118 => (some (x6, (⟨#[]⟩ : ByteArray), t118))) else (if t117 = 0 then (if 0 ≤ (wrap64 ((wrap64 ((x6.size : Int) - ((x0.extract ((wrap64 (x5 + 1)) : Int).toNat x0.size).size : Int))) + t117)) then (if (wrap64 ((wrap64 ((x6.size : Int) - ((x0.extract ((wrap64 (x5 + 1)) : Int).toNat x0.size).size : Int))) + t117)) ≤ (x6.size : Int) then (if 0 ≤ (wrap64 (t117 + 1)) then (if (wrap64 (t117 + 1)) ≤ ((x0.extract ((wrap64 (x5 + 1)) : Int).toNat x0.size).size : Int) then (some (x6.extract 0 ((wrap64 ((wrap64 ((x6.size : Int) - ((x0.extract ((wrap64 (x5 + 1)) : Int).toNat x0.size).size : Int))) + t117)) : Int).toNat, (x0.extract ((wrap64 (x5 + 1)) : Int).toNat x0.size).extract ((wrap64 (t117 + 1)) : Int).toNat (x0.extract ((wrap64 (x5 + 1)) : Int).toNat x0.size).size, none)) else (none)) else (none)) else (none)) else (none)) else (if 0 ≤ (wrap64 (t117 - 1)) then (if (wrap64 (t117 - 1)) < ((x0.extract ((wrap64 (x5 + 1)) : Int).toNat x0.size).size : Int) then (if (bt (x0.extract ((wrap64 (x5 + 1)) : Int).toNat x0.size) (wrap64 (t117 - 1))) = 92 then (fastjson_parseRawString.l0 k (x0.extract ((wrap64 (x5 + 1)) : Int).toNat x0.size) t117 x6) else (if 0 ≤ (wrap64 ((wrap64 ((x6.size : Int) - ((x0.extract ((wrap64 (x5 + 1)) : Int).toNat x0.size).size : Int))) + t117)) then (if (wrap64 ((wrap64 ((x6.size : Int) - ((x0.extract ((wrap64 (x5 + 1)) : Int).toNat x0.size).size : Int))) + t117)) ≤ (x6.size : Int) then (if 0 ≤ (wrap64 (t117 + 1)) then (if (wrap64 (t117 + 1)) ≤ ((x0.extract ((wrap64 (x5 + 1)) : Int).toNat x0.size).size : Int) then (some (x6.extract 0 ((wrap64 ((wrap64 ((x6.size : Int) - ((x0.extract ((wrap64 (x5 + 1)) : Int).toNat x0.size).size : Int))) + t117)) : Int).toNat, (x0.extract ((wrap64 (x5 + 1)) : Int).toNat x0.size).extract ((wrap64 (t117 + 1)) : Int).toNat (x0.extract ((wrap64 (x5 + 1)) : Int).toNat x0.size).size, none)) else (none)) else (none)) else (none)) else (none))) else (none)) else (none))))) else (none)) else (none))
def fastjson_parseRawString.l1 : Nat → ByteArray → Int → ByteArray → Int → Option (ByteArray × ByteArray × Option Int)
  | 0, _, _, _, _ => none
  | k + 1, x0, x5, x6, x7 => if x7 > 0 then (if 0 ≤ (wrap64 (x7 - 1)) then (if (wrap64 (x7 - 1)) < (x0.size : Int) then (if (bt x0 (wrap64 (x7 - 1))) = 92 then (fastjson_parseRawString.l1 k x0 x5 x6 (wrap64 (x7 - 1))) else (fastjson_parseRawString.j3 k x0 x5 x6 x7)) else (none)) else (none)) else (fastjson_parseRawString.j3 k x0 x5 x6 x7)
end
def fastjson_parseRawString.f (k : Nat) (a0 : ByteArray) : Option (ByteArray × ByteArray × Option Int) := (strings_IndexByte.f a0 34).bind fun t115 => (if t115 < 0 then ((errors_New.f (⟨#[109, 105, 115, 115, 105, 110, 103, 32, 99, 108, 111, 115, 105, 110, 103]⟩ : ByteArray)).bind fun t116 => (some (a0, (⟨#[]⟩ : ByteArray), t116))) else (if t115 = 0 then (fastjson_parseRawString.j0 k a0 t115 true) else (if 0 ≤ (wrap64 (t115 - 1)) then (if (wrap64 (t115 - 1)) < (a0.size : Int) then (fastjson_parseRawString.j0 k a0 t115 ((bt a0 (wrap64 (t115 - 1))) != 92)) else (none)) else (none))))
theorem fastjson_parseRawString.mono_l : ∀ k, (∀ y0 y1 y2, LeO (fastjson_parseRawString.j0 k y0 y1 y2) (fastjson_parseRawString.j0 (k + 1) y0 y1 y2)) ∧ (∀ y0 y1 y2, LeO (fastjson_parseRawString.l0 k y0 y1 y2) (fastjson_parseRawString.l0 (k + 1) y0 y1 y2)) ∧ (∀ y0 y1 y2 y3, LeO (fastjson_parseRawString.j3 k y0 y1 y2 y3) (fastjson_parseRawString.j3 (k + 1) y0 y1 y2 y3)) ∧ (∀ y0 y1 y2 y3, LeO (fastjson_parseRawString.l1 k y0 y1 y2 y3) (fastjson_parseRawString.l1 (k + 1) y0 y1 y2 y3))
  | 0 => ⟨fun _ _ _ r h => by simp [fastjson_parseRawString.j0] at h, fun _ _ _ r h => by simp [fastjson_parseRawString.l0] at h, fun _ _ _ _ r h => by simp [fastjson_parseRawString.j3] at h, fun _ _ _ _ r h => by simp [fastjson_parseRawString.l1] at h⟩
  | k + 1 => by
    obtain ⟨ih0, ih1, ih2, ih3⟩ := fastjson_parseRawString.mono_l k
    refine ⟨?_, ?_, ?_, ?_⟩
    · intro y0 y1 y2
      unfold fastjson_parseRawString.j0
      repeat' first
      | (with_reducible exact ih0 _ _ _)
      | (with_reducible exact ih1 _ _ _)
      | (with_reducible exact ih2 _ _ _ _)
      | (with_reducible exact ih3 _ _ _ _)
      | (with_reducible exact LeO.refl _)
      | (with_reducible exact LeO.none _)
      | (with_reducible refine LeO.ite ?_ ?_)
      | (with_reducible refine LeO.bind ?_ (fun _ => ?_))
      | exact ih0 _ _ _
      | exact ih1 _ _ _
      | exact ih2 _ _ _ _
      | exact ih3 _ _ _ _
      | exact LeO.none _
      | refine LeO.ite ?_ ?_
      | refine LeO.bind ?_ (fun _ => ?_)
    · intro y0 y1 y2
      unfold fastjson_parseRawString.l0
      repeat' first
      | (with_reducible exact ih0 _ _ _)
      | (with_reducible exact ih1 _ _ _)
      | (with_reducible exact ih2 _ _ _ _)
      | (with_reducible exact ih3 _ _ _ _)
      | (with_reducible exact LeO.refl _)
      | (with_reducible exact LeO.none _)
      | (with_reducible refine LeO.ite ?_ ?_)
      | (with_reducible refine LeO.bind ?_ (fun _ => ?_))
      | exact ih0 _ _ _
      | exact ih1 _ _ _
      | exact ih2 _ _ _ _
      | exact ih3 _ _ _ _
      | exact LeO.none _
      | refine LeO.ite ?_ ?_
      | refine LeO.bind ?_ (fun _ => ?_)
    · intro y0 y1 y2 y3
      unfold fastjson_parseRawString.j3
      repeat' first
      | (with_reducible exact ih0 _ _ _)
      | (with_reducible exact ih1 _ _ _)
      | (with_reducible exact ih2 _ _ _ _)
      | (with_reducible exact ih3 _ _ _ _)
      | (with_reducible exact LeO.refl _)
      | (with_reducible exact LeO.none _)
      | (with_reducible refine LeO.ite ?_ ?_)
      | (with_reducible refine LeO.bind ?_ (fun _ => ?_))
      | exact ih0 _ _ _
      | exact ih1 _ _ _
      | exact ih2 _ _ _ _
      | exact ih3 _ _ _ _
      | exact LeO.none _
      | refine LeO.ite ?_ ?_
      | refine LeO.bind ?_ (fun _ => ?_)
    · intro y0 y1 y2 y3
      unfold fastjson_parseRawString.l1
      repeat' first
      | (with_reducible exact ih0 _ _ _)
      | (with_reducible exact ih1 _ _ _)
      | (with_reducible exact ih2 _ _ _ _)
      | (with_reducible exact ih3 _ _ _ _)
      | (with_reducible exact LeO.refl _)
      | (with_reducible exact LeO.none _)
      | (with_reducible refine LeO.ite ?_ ?_)
      | (with_reducible refine LeO.bind ?_ (fun _ => ?_))
      | exact ih0 _ _ _
      | exact ih1 _ _ _
      | exact ih2 _ _ _ _
      | exact ih3 _ _ _ _
      | exact LeO.none _
      | refine LeO.ite ?_ ?_
      | refine LeO.bind ?_ (fun _ => ?_)
theorem fastjson_parseRawString.mono : ∀ a0 k, LeO (fastjson_parseRawString.f k a0) (fastjson_parseRawString.f (k + 1) a0) := by
  intro a0 k
  obtain ⟨ih0, ih1, ih2, ih3⟩ := fastjson_parseRawString.mono_l k
  unfold fastjson_parseRawString.f
  repeat' first
      | (with_reducible exact ih0 _ _ _)
      | (with_reducible exact ih1 _ _ _)
      | (with_reducible exact ih2 _ _ _ _)
      | (with_reducible exact ih3 _ _ _ _)
      | (with_reducible exact LeO.refl _)
      | (with_reducible exact LeO.none _)
      | (with_reducible refine LeO.ite ?_ ?_)
      | (with_reducible refine LeO.bind ?_ (fun _ => ?_))
      | exact ih0 _ _ _
      | exact ih1 _ _ _
      | exact ih2 _ _ _ _
      | exact ih3 _ _ _ _
      | exact LeO.none _
      | refine LeO.ite ?_ ?_
      | refine LeO.bind ?_ (fun _ => ?_)
set_option maxHeartbeats 8000000 in
set_option maxRecDepth 100000 in
theorem fastjson_parseRawString.calls (k : Nat) (a0 : ByteArray) (r1 : ByteArray) (r2 : ByteArray) (r3 : Option Int) (w : World) (h : fastjson_parseRawString.f k a0 = some (r1, r2, r3)) :
    Calls Tryd.prog 99 #[.string a0] w fun e w' => ∃ (et2_ : Nat) (ep2_ : Value), e = .returned (.tuple #[.string r1, .string r2, errX et2_ ep2_ r3]) ∧ Below w.heap.size w w' := by
  have HB := Aside0.mk (Below.refl w.heap.size w)
  have H : ((strings_IndexByte.f a0 34).bind fun t115 => (if t115 < 0 then ((errors_New.f (⟨#[109, 105, 115, 115, 105, 110, 103, 32, 99, 108, 111, 115, 105, 110, 103]⟩ : ByteArray)).bind fun t116 => (some (a0, (⟨#[]⟩ : ByteArray), t116))) else (if t115 = 0 then (fastjson_parseRawString.j0 k a0 t115 true) else (if 0 ≤ (wrap64 (t115 - 1)) then (if (wrap64 (t115 - 1)) < (a0.size : Int) then (fastjson_parseRawString.j0 k a0 t115 ((bt a0 (wrap64 (t115 - 1))) != 92)) else (none)) else (none))))) = some (r1, r2, r3) := h
  clear h
  replace H := Option.bind_eq_some_iff.mp H
  obtain ⟨t115, A20, H⟩ := H
  replace H : (if t115 < 0 then ((errors_New.f (⟨#[109, 105, 115, 115, 105, 110, 103, 32, 99, 108, 111, 115, 105, 110, 103]⟩ : ByteArray)).bind fun t116 => (some (a0, (⟨#[]⟩ : ByteArray), t116))) else (if t115 = 0 then (fastjson_parseRawString.j0 k a0 t115 true) else (if 0 ≤ (wrap64 (t115 - 1)) then (if (wrap64 (t115 - 1)) < (a0.size : Int) then (fastjson_parseRawString.j0 k a0 t115 ((bt a0 (wrap64 (t115 - 1))) != 92)) else (none)) else (none)))) = some (r1, r2, r3) := H
  have A2 := Aside0.mk A20
  clear A20
  by_cases c3 : t115 < 0
  · rw [if_pos c3] at H
    have c3b0 : decide (t115 < 0) = true := decide_eq_true c3
    clear c3
    replace H := Option.bind_eq_some_iff.mp H
    obtain ⟨t116, A40, H⟩ := H
    replace H : (some (a0, (⟨#[]⟩ : ByteArray), t116)) = some (r1, r2, r3) := H
    have A4 := Aside0.mk A40
    clear A40
    simp only [Option.some.injEq, Prod.mk.injEq] at H
    obtain ⟨rfl, rfl, rfl⟩ := H
    go_enter Tryd.func99, Tryd.ntmps99
    go_wp2_with (first | (go_at_call 98; (with_reducible refine (strings_IndexByte.calls a0 34 t115 _ A2.out).mono ?_); rintro e w' ⟨rfl, ⟨nd, rfl⟩⟩; (try first | exact ⟨rfl, _, World.drewN_drewN _ _ _⟩ | exact ⟨rfl, _, Eq.trans (World.drewN_drewN _ _ _) (congrArg (World.drewN _) (Nat.add_assoc _ _ _))⟩)) | (go_at_call 81; (with_reducible refine (errors_New.calls (⟨#[109, 105, 115, 115, 105, 110, 103, 32, 99, 108, 111, 115, 105, 110, 103]⟩ : ByteArray) t116 _ A4.out).mono ?_); rintro e w5 ⟨et_A4_0, ep_A4_0, rfl, hb⟩; have n0_ := Aside0.mk (below_step (by repeat (first | (with_reducible first | exact HB.out | apply below_alloc | apply pw_below_drewN | apply below_drew1) | exact HB.out)) hb); clear HB; have HB := n0_; clear n0_; (try clear hb); (try clear hb2); (try clear hk); (try clear hi); (try simp only [errW_none, errW_some, errX_none, errX_some])))
    repeat (go_quiet (first | (go_at_call 98; (with_reducible refine (strings_IndexByte.calls a0 34 t115 _ A2.out).mono ?_); rintro e w' ⟨rfl, ⟨nd, rfl⟩⟩; (try first | exact ⟨rfl, _, World.drewN_drewN _ _ _⟩ | exact ⟨rfl, _, Eq.trans (World.drewN_drewN _ _ _) (congrArg (World.drewN _) (Nat.add_assoc _ _ _))⟩)) | (go_at_call 81; (with_reducible refine (errors_New.calls (⟨#[109, 105, 115, 115, 105, 110, 103, 32, 99, 108, 111, 115, 105, 110, 103]⟩ : ByteArray) t116 _ A4.out).mono ?_); rintro e w5 ⟨et_A4_0, ep_A4_0, rfl, hb⟩; have n0_ := Aside0.mk (below_step (by repeat (first | (with_reducible first | exact HB.out | apply below_alloc | apply pw_below_drewN | apply below_drew1) | exact HB.out)) hb); clear HB; have HB := n0_; clear n0_; (try clear hb); (try clear hb2); (try clear hk); (try clear hi); (try simp only [errW_none, errW_some, errX_none, errX_some]))); try go_wp2_with (first | (go_at_call 98; (with_reducible refine (strings_IndexByte.calls a0 34 t115 _ A2.out).mono ?_); rintro e w' ⟨rfl, ⟨nd, rfl⟩⟩; (try first | exact ⟨rfl, _, World.drewN_drewN _ _ _⟩ | exact ⟨rfl, _, Eq.trans (World.drewN_drewN _ _ _) (congrArg (World.drewN _) (Nat.add_assoc _ _ _))⟩)) | (go_at_call 81; (with_reducible refine (errors_New.calls (⟨#[109, 105, 115, 115, 105, 110, 103, 32, 99, 108, 111, 115, 105, 110, 103]⟩ : ByteArray) t116 _ A4.out).mono ?_); rintro e w5 ⟨et_A4_0, ep_A4_0, rfl, hb⟩; have n0_ := Aside0.mk (below_step (by repeat (first | (with_reducible first | exact HB.out | apply below_alloc | apply pw_below_drewN | apply below_drew1) | exact HB.out)) hb); clear HB; have HB := n0_; clear n0_; (try clear hb); (try clear hb2); (try clear hk); (try clear hi); (try simp only [errW_none, errW_some, errX_none, errX_some]))))
    go_ret3
    exact ⟨et_A4_0, ep_A4_0, by first | rfl | (simp [errW_none, errW_some] <;> rfl) | (simp [*, errW_none, errW_some] <;> rfl), by repeat (first | (with_reducible first | exact HB.out | apply below_alloc | apply pw_below_drewN | apply below_drew1) | exact HB.out)⟩
  · rw [if_neg c3] at H
    have c3b0 : decide (t115 < 0) = false := decide_eq_false c3
    clear c3
    have HC6 := Aside0.mk H
    clear H
    go_enter Tryd.func99, Tryd.ntmps99
    go_upto_region 4 with (first | (go_at_call 98; (with_reducible refine (strings_IndexByte.calls a0 34 t115 _ A2.out).mono ?_); rintro e w' ⟨rfl, ⟨nd, rfl⟩⟩; (try first | exact ⟨rfl, _, World.drewN_drewN _ _ _⟩ | exact ⟨rfl, _, Eq.trans (World.drewN_drewN _ _ _) (congrArg (World.drewN _) (Nat.add_assoc _ _ _))⟩)))
    repeat (go_quiet (first | (go_at_call 98; (with_reducible refine (strings_IndexByte.calls a0 34 t115 _ A2.out).mono ?_); rintro e w' ⟨rfl, ⟨nd, rfl⟩⟩; (try first | exact ⟨rfl, _, World.drewN_drewN _ _ _⟩ | exact ⟨rfl, _, Eq.trans (World.drewN_drewN _ _ _) (congrArg (World.drewN _) (Nat.add_assoc _ _ _))⟩))); go_upto_region 4 with (first | (go_at_call 98; (with_reducible refine (strings_IndexByte.calls a0 34 t115 _ A2.out).mono ?_); rintro e w' ⟨rfl, ⟨nd, rfl⟩⟩; (try first | exact ⟨rfl, _, World.drewN_drewN _ _ _⟩ | exact ⟨rfl, _, Eq.trans (World.drewN_drewN _ _ _) (congrArg (World.drewN _) (Nat.add_assoc _ _ _))⟩))))
    (try simp only [Act.put, List.setIfInBounds_toArray, List.set_cons_zero, List.set_cons_succ])
    go_cut [22] (fun v22 wc => ∃ (kq : Nat) (x22_5 : Bool), v22 = .bool x22_5 ∧ Aside0 (fastjson_parseRawString.j0 kq a0 t115 x22_5 = some (r1, r2, r3)) ∧ Aside0 (kq ≤ k) ∧ Aside0 (Below w.heap.size w wc))
    case first =>
      have H := HC6.out
      clear HC6
      by_cases c7 : t115 = 0
      · rw [if_pos c7] at H
        have c7b0 : (t115 == 0) = true := beq_iff_eq.mpr c7
        have c7b1 : (t115 != 0) = false := bne_eq_false_iff_eq.mpr c7
        clear c7
        (first | rw [c7b0] | (simp only [i64_w, i32_w]; rw [c7b0]) | rw [c7b1] | skip)
        have H' := Aside0.mk H
        clear H
        go_wp2
        repeat (go_quiet (fail); try go_wp2)
        go_meet
        case rel => exact ⟨_, (true), (by first | rfl | (simp; done) | (simp [*]; done)), H', ⟨by first | omega | exact Nat.le_refl _⟩, ⟨by repeat (first | (with_reducible first | exact HB.out | apply below_alloc | apply pw_below_drewN | apply below_drew1) | exact HB.out)⟩⟩
      · rw [if_neg c7] at H
        have c7b0 : (t115 == 0) = false := beq_eq_false_iff_ne.mpr c7
        have c7b1 : (t115 != 0) = true := bne_iff_ne.mpr c7
        (first | rw [c7b0] | (simp only [i64_w, i32_w]; rw [c7b0]) | rw [c7b1] | skip)
        obtain ⟨ji8, hji8⟩ : ∃ j_ : Int, (wrap64 (t115 - 1)) = j_ := ⟨_, rfl⟩
        replace H : (if 0 ≤ (ji8) then (if (ji8) < (a0.size : Int) then (fastjson_parseRawString.j0 k a0 t115 ((bt a0 (ji8)) != 92)) else (none)) else (none)) = some (r1, r2, r3) := by first | (rw [hji8] at H; exact H) | (simp only [hji8] at H ⊢; exact H)
        have hji8w : (IntKind.i64.wrap (t115 - 1)) = ji8 := (i64_w _).trans hji8
        by_cases c9 : 0 ≤ (ji8)
        · rw [if_pos c9] at H
          have c9b0 : decide (0 ≤ (ji8)) = true := decide_eq_true c9
          clear c9
          by_cases c10 : (ji8) < (a0.size : Int)
          · rw [if_pos c10] at H
            have c10b0 : decide ((ji8) < (a0.size : Int)) = true := decide_eq_true c10
            clear c10
            have H' := Aside0.mk H
            clear H
            have p11 : 0 ≤ ((ji8) : Int) := of_decide_eq_true (by first | (with_reducible assumption) | assumption)
            have q11 : (ji8) < (a0.size : Int) := of_decide_eq_true (by first | (with_reducible assumption) | assumption)
            have hx11 := bt_at a0 (ji8)
            replace p11 := eq_true p11
            replace q11 := eq_true q11
            go_wp2
            repeat (go_quiet (fail); try go_wp2)
            go_meet
            case rel => exact ⟨_, (((bt a0 (ji8)) != 92)), (by first | rfl | (simp; done) | (simp only [← hji8] <;> (first | rfl | (simp; done))) | (simp [*]; done)), H', ⟨by first | omega | exact Nat.le_refl _⟩, ⟨by repeat (first | (with_reducible first | exact HB.out | apply below_alloc | apply pw_below_drewN | apply below_drew1) | exact HB.out)⟩⟩
          · rw [if_neg c10] at H
            exact absurd H (by simp)
        · rw [if_neg c9] at H
          exact absurd H (by simp)
    case rest =>
      clear HC6
      try clear c1
      try clear p1
      try clear q1
      try clear hx1
      try clear p2
      try clear c3
      try clear c3b0
      try clear p6
      try clear c7
      try clear c7b0
      try clear c7b1
      try clear c9
      try clear c9b0
      try clear c10
      try clear c10b0
      try clear p11
      try clear q11
      try clear hx11
      try clear p11
      try clear q11
      obtain ⟨kq, x22_5, rfl, HA, HJ5, HB⟩ := hcut
      cases kq with
      | zero => exact absurd HA.out (by simp [fastjson_parseRawString.j0])
      | succ kj5 =>
        have H := HA.out
        clear HA
        simp only [fastjson_parseRawString.j0] at H
        by_cases c12 : x22_5 = true
        · subst c12
          have H1 : (if 0 ≤ t115 then (if t115 ≤ (a0.size : Int) then (if 0 ≤ (wrap64 (t115 + 1)) then (if (wrap64 (t115 + 1)) ≤ (a0.size : Int) then (some (a0.extract 0 (t115 : Int).toNat, a0.extract ((wrap64 (t115 + 1)) : Int).toNat a0.size, none)) else (none)) else (none)) else (none)) else (none)) = some (r1, r2, r3) := by rw [if_pos rfl] at H; exact H
          clear H
          have H := H1
          clear H1
          by_cases c13 : 0 ≤ t115
          · rw [if_pos c13] at H
            have c13b0 := eq_true c13
            have c13b1 : decide (0 ≤ t115) = true := decide_eq_true c13
            clear c13
            by_cases c14 : t115 ≤ (a0.size : Int)
            · rw [if_pos c14] at H
              have c14b0 := eq_true c14
              have c14b1 : decide (t115 ≤ (a0.size : Int)) = true := decide_eq_true c14
              clear c14
              obtain ⟨ji15, hji15⟩ : ∃ j_ : Int, (wrap64 (t115 + 1)) = j_ := ⟨_, rfl⟩
              replace H : (if 0 ≤ (ji15) then (if (ji15) ≤ (a0.size : Int) then (some (a0.extract 0 (t115 : Int).toNat, a0.extract ((ji15) : Int).toNat a0.size, none)) else (none)) else (none)) = some (r1, r2, r3) := by first | (rw [hji15] at H; exact H) | (simp only [hji15] at H ⊢; exact H)
              have hji15w : (IntKind.i64.wrap (t115 + 1)) = ji15 := (i64_w _).trans hji15
              by_cases c16 : 0 ≤ (ji15)
              · rw [if_pos c16] at H
                have c16b0 := eq_true c16
                have c16b1 : decide (0 ≤ (ji15)) = true := decide_eq_true c16
                clear c16
                by_cases c17 : (ji15) ≤ (a0.size : Int)
                · rw [if_pos c17] at H
                  have c17b0 := eq_true c17
                  have c17b1 : decide ((ji15) ≤ (a0.size : Int)) = true := decide_eq_true c17
                  clear c17
                  simp only [Option.some.injEq, Prod.mk.injEq] at H
                  obtain ⟨rfl, rfl, rfl⟩ := H
                  try have hcs18 := fun W_ : World => run_slice_string_h (P := Tryd.prog) W_ 9 a0 Tryd.underlying9 .i64 t115 (of_decide_eq_true (by first | (with_reducible assumption) | assumption)) (of_decide_eq_true (by first | (with_reducible assumption) | assumption))
                  try have hcs19 := fun W_ : World => run_slice_string_l (P := Tryd.prog) W_ 9 a0 Tryd.underlying9 .i64 (ji15) (of_decide_eq_true (by first | (with_reducible assumption) | assumption)) (of_decide_eq_true (by first | (with_reducible assumption) | assumption))
                  go_wp2
                  repeat (go_quiet (fail); try go_wp2)
                  go_ret3
                  exact ⟨0, .nilIface, by first | rfl | (simp [errW_none, errW_some] <;> rfl) | (simp only [← hji15]; first | rfl | (simp [errW_none, errW_some] <;> rfl)) | (simp [*, errW_none, errW_some] <;> rfl), by repeat (first | (with_reducible first | exact HB.out | apply below_alloc | apply pw_below_drewN | apply below_drew1) | exact HB.out)⟩
                · rw [if_neg c17] at H
                  exact absurd H (by simp)
              · rw [if_neg c16] at H
                exact absurd H (by simp)
            · rw [if_neg c14] at H
              exact absurd H (by simp)
          · rw [if_neg c13] at H
            exact absurd H (by simp)
        · replace c12 := Bool.eq_false_iff.mpr c12
          subst c12
          have H1 : (fastjson_parseRawString.l0 kj5 a0 t115 a0) = some (r1, r2, r3) := by rw [if_neg (show ¬ (false = true) by decide)] at H; exact H
          clear H
          have H := H1
          clear H1
          have H' := Aside0.mk H
          clear H
          go_wp2
          repeat (go_quiet (fail); try go_wp2)
          try simp only [Act.put, List.setIfInBounds_toArray, List.set_cons_succ, List.set_cons_zero]
          go_loopg [0, 5] kj5 (fun kq v0 v5 w' => ∃ (x0_2 : ByteArray) (x5_2 : Int), v0 = .string x0_2 ∧ v5 = .int .i64 x5_2 ∧ Aside0 (fastjson_parseRawString.l0 kq x0_2 x5_2 a0 = some (r1, r2, r3)) ∧ Aside0 (kq ≤ kj5) ∧ Aside0 (Below w.heap.size w w'))
          case atStart => exact ⟨(a0), (t115), (by first | rfl | (simp; done) | (simp [*]; done)), (by first | rfl | (simp; done) | (simp [*]; done)), H', ⟨Nat.le_refl _⟩, ⟨by repeat (first | (with_reducible first | exact HB.out | apply below_alloc | apply pw_below_drewN | apply below_drew1) | exact HB.out)⟩⟩
          case round =>
            clear H'
            try clear c1
            try clear p1
            try clear q1
            try clear hx1
            try clear p2
            try clear c3
            try clear c3b0
            try clear p6
            try clear c7
            try clear c7b0
            try clear c7b1
            try clear c9
            try clear c9b0
            try clear c10
            try clear c10b0
            try clear p11
            try clear q11
            try clear hx11
            try clear c12
            try clear c13
            try clear c13b0
            try clear c13b1
            try clear c14
            try clear c14b0
            try clear c14b1
            try clear c16
            try clear c16b0
            try clear c16b1
            try clear c17
            try clear c17b0
            try clear c17b1
            try clear p1
            try clear p11
            try clear p2
            try clear p6
            try clear q1
            try clear q11
            obtain ⟨x0_2, x5_2, rfl, rfl, HA, HK2, HB⟩ := hrel
            cases gk with
            | zero => exact absurd HA.out (by simp [fastjson_parseRawString.l0])
            | succ k2 =>
              have H := HA.out
              clear HA
              simp only [fastjson_parseRawString.l0] at H
              have HC20 := Aside0.mk H
              clear H
              go_upto_block 2 with (fail)
              repeat (go_quiet (fail); go_upto_block 2 with (fail))
              go_cut [7] (fun v7 wc => ∃ (kq : Nat) (x7_19 : Int), v7 = .int .i64 x7_19 ∧ Aside0 (fastjson_parseRawString.j3 kq x0_2 x5_2 a0 x7_19 = some (r1, r2, r3)) ∧ Aside0 (kq ≤ k2) ∧ Aside0 (Below w.heap.size w wc))
              case first =>
                have H := HC20.out
                clear HC20
                have H' := Aside0.mk H
                clear H
                go_wp2
                repeat (go_quiet (fail); try go_wp2)
                try simp only [Act.put, List.setIfInBounds_toArray, List.set_cons_succ, List.set_cons_zero]
                go_loopg [7] k2 (fun kq v7 w' => ∃ (x7_3 : Int), v7 = .int .i64 x7_3 ∧ Aside0 (fastjson_parseRawString.l1 kq x0_2 x5_2 a0 x7_3 = some (r1, r2, r3)) ∧ Aside0 (kq ≤ k2) ∧ Aside0 (Below w.heap.size w w'))
                case atStart => exact ⟨(wrap64 (x5_2 - 1)), (by first | rfl | (simp; done) | (simp [*]; done)), H', ⟨Nat.le_refl _⟩, ⟨by repeat (first | (with_reducible first | exact HB.out | apply below_alloc | apply pw_below_drewN | apply below_drew1) | exact HB.out)⟩⟩
                case round =>
                  clear H'
                  try clear c1
                  try clear p1
                  try clear q1
                  try clear hx1
                  try clear p2
                  try clear c3
                  try clear c3b0
                  try clear p6
                  try clear c7
                  try clear c7b0
                  try clear c7b1
                  try clear c9
                  try clear c9b0
                  try clear c10
                  try clear c10b0
                  try clear p11
                  try clear q11
                  try clear hx11
                  try clear c12
                  try clear c13
                  try clear c13b0
                  try clear c13b1
                  try clear c14
                  try clear c14b0
                  try clear c14b1
                  try clear c16
                  try clear c16b0
                  try clear c16b1
                  try clear c17
                  try clear c17b0
                  try clear c17b1
                  try clear p1
                  try clear p11
                  try clear p2
                  try clear p6
                  try clear q1
                  try clear q11
                  obtain ⟨x7_3, rfl, HA, HK3, HB⟩ := hrel
                  cases gk with
                  | zero => exact absurd HA.out (by simp [fastjson_parseRawString.l1])
                  | succ k3 =>
                    have H := HA.out
                    clear HA
                    simp only [fastjson_parseRawString.l1] at H
                    by_cases c21 : x7_3 > 0
                    · rw [if_pos c21] at H
                      have c21b0 : decide (0 < x7_3) = true := decide_eq_true c21
                      clear c21
                      (first | rw [c21b0] | (simp only [i64_w, i32_w]; rw [c21b0]) | rw [c21b1] | skip)
                      obtain ⟨ji22, hji22⟩ : ∃ j_ : Int, (wrap64 (x7_3 - 1)) = j_ := ⟨_, rfl⟩
                      replace H : (if 0 ≤ (ji22) then (if (ji22) < (x0_2.size : Int) then (if (bt x0_2 (ji22)) = 92 then (fastjson_parseRawString.l1 k3 x0_2 x5_2 a0 ji22) else (fastjson_parseRawString.j3 k3 x0_2 x5_2 a0 x7_3)) else (none)) else (none)) = some (r1, r2, r3) := by first | (rw [hji22] at H; exact H) | (simp only [hji22] at H ⊢; exact H)
                      have hji22w : (IntKind.i64.wrap (x7_3 - 1)) = ji22 := (i64_w _).trans hji22
                      by_cases c23 : 0 ≤ (ji22)
                      · rw [if_pos c23] at H
                        have c23b0 : decide (0 ≤ (ji22)) = true := decide_eq_true c23
                        clear c23
                        by_cases c24 : (ji22) < (x0_2.size : Int)
                        · rw [if_pos c24] at H
                          have c24b0 : decide ((ji22) < (x0_2.size : Int)) = true := decide_eq_true c24
                          clear c24
                          by_cases c26 : (bt x0_2 (ji22)) = 92
                          · rw [if_pos c26] at H
                            have c26b0 : ((bt x0_2 (ji22)) == 92) = true := beq_iff_eq.mpr c26
                            have c26b1 : ((bt x0_2 (ji22)) != 92) = false := bne_eq_false_iff_eq.mpr c26
                            clear c26
                            have H' := Aside0.mk H
                            clear H
                            have p25 : 0 ≤ ((ji22) : Int) := of_decide_eq_true (by first | (with_reducible assumption) | assumption)
                            have q25 : (ji22) < (x0_2.size : Int) := of_decide_eq_true (by first | (with_reducible assumption) | assumption)
                            have hx25 := bt_at x0_2 (ji22)
                            replace p25 := eq_true p25
                            replace q25 := eq_true q25
                            go_wp2
                            repeat (go_quiet (fail); try go_wp2)
                            go_roundg k3
                            case measure => have := HJ5.out; have := HK2.out; have := HK3.out; omega
                            case rel => exact ⟨(ji22), (by first | rfl | (simp; done) | (simp only [← hji22] <;> (first | rfl | (simp; done))) | (simp [*]; done)), H', ⟨by have := HJ5.out; have := HK2.out; have := HK3.out; omega⟩, ⟨by repeat (first | (with_reducible first | exact HB.out | apply below_alloc | apply pw_below_drewN | apply below_drew1) | exact HB.out)⟩⟩
                          · rw [if_neg c26] at H
                            have c26b0 : ((bt x0_2 (ji22)) == 92) = false := beq_eq_false_iff_ne.mpr c26
                            have c26b1 : ((bt x0_2 (ji22)) != 92) = true := bne_iff_ne.mpr c26
                            have H' := Aside0.mk H
                            clear H
                            have p25 : 0 ≤ ((ji22) : Int) := of_decide_eq_true (by first | (with_reducible assumption) | assumption)
                            have q25 : (ji22) < (x0_2.size : Int) := of_decide_eq_true (by first | (with_reducible assumption) | assumption)
                            have hx25 := bt_at x0_2 (ji22)
                            replace p25 := eq_true p25
                            replace q25 := eq_true q25
                            go_wp2
                            repeat (go_quiet (fail); try go_wp2)
                            go_meet
                            case rel => exact ⟨_, (x7_3), (by first | rfl | (simp; done) | (simp [*]; done)), H', ⟨by have := HJ5.out; have := HK2.out; have := HK3.out; first | omega | exact Nat.le_refl _⟩, ⟨by repeat (first | (with_reducible first | exact HB.out | apply below_alloc | apply pw_below_drewN | apply below_drew1) | exact HB.out)⟩⟩
                        · rw [if_neg c24] at H
                          exact absurd H (by simp)
                      · rw [if_neg c23] at H
                        exact absurd H (by simp)
                    · rw [if_neg c21] at H
                      have c21b0 : decide (0 < x7_3) = false := decide_eq_false c21
                      clear c21
                      (first | rw [c21b0] | (simp only [i64_w, i32_w]; rw [c21b0]) | rw [c21b1] | skip)
                      have H' := Aside0.mk H
                      clear H
                      go_wp2
                      repeat (go_quiet (fail); try go_wp2)
                      go_meet
                      case rel => exact ⟨_, (x7_3), (by first | rfl | (simp; done) | (simp [*]; done)), H', ⟨by have := HJ5.out; have := HK2.out; have := HK3.out; first | omega | exact Nat.le_refl _⟩, ⟨by repeat (first | (with_reducible first | exact HB.out | apply below_alloc | apply pw_below_drewN | apply below_drew1) | exact HB.out)⟩⟩
              case rest =>
                clear HC20
                try clear c1
                try clear p1
                try clear q1
                try clear hx1
                try clear c2
                try clear p2
                try clear q2
                try clear hx2
                try clear c3
                try clear c3b0
                try clear p6
                try clear c7
                try clear c7b0
                try clear c7b1
                try clear c9
                try clear c9b0
                try clear c10
                try clear c10b0
                try clear p11
                try clear q11
                try clear hx11
                try clear c12
                try clear c13
                try clear c13b0
                try clear c13b1
                try clear c14
                try clear c14b0
                try clear c14b1
                try clear c16
                try clear c16b0
                try clear c16b1
                try clear c17
                try clear c17b0
                try clear c17b1
                try clear c21
                try clear c21b0
                try clear c21b1
                try clear c23
                try clear c23b0
                try clear c24
                try clear c24b0
                try clear p25
                try clear q25
                try clear hx25
                try clear c26
                try clear c26b0
                try clear c26b1
                try clear p1
                try clear p11
                try clear p2
                try clear p25
                try clear p6
                try clear q1
                try clear q11
                try clear q25
                obtain ⟨kq, x7_19, rfl, HA, HJ19, HB⟩ := hcut
                cases kq with
                | zero => exact absurd HA.out (by simp [fastjson_parseRawString.j3])
                | succ kj19 =>
                  have H := HA.out
                  clear HA
                  simp only [fastjson_parseRawString.j3] at H
                  by_cases c27 : (Int.tmod (IntKind.u64.wrap (wrap64 (x5_2 - x7_19))) 2) = 0
                  · rw [if_pos c27] at H
                    have c27b0 : ((Int.tmod (IntKind.u64.wrap (wrap64 (x5_2 - x7_19))) 2) == 0) = true := beq_iff_eq.mpr c27
                    have c27b1 : ((Int.tmod (IntKind.u64.wrap (wrap64 (x5_2 - x7_19))) 2) != 0) = false := bne_eq_false_iff_eq.mpr c27
                    clear c27
                    obtain ⟨ji28, hji28⟩ : ∃ j_ : Int, (wrap64 ((wrap64 ((a0.size : Int) - (x0_2.size : Int))) + x5_2)) = j_ := ⟨_, rfl⟩
                    replace H : (if 0 ≤ (ji28) then (if (ji28) ≤ (a0.size : Int) then (if 0 ≤ (wrap64 (x5_2 + 1)) then (if (wrap64 (x5_2 + 1)) ≤ (x0_2.size : Int) then (some (a0.extract 0 ((ji28) : Int).toNat, x0_2.extract ((wrap64 (x5_2 + 1)) : Int).toNat x0_2.size, none)) else (none)) else (none)) else (none)) else (none)) = some (r1, r2, r3) := by first | (rw [hji28] at H; exact H) | (simp only [hji28] at H ⊢; exact H)
                    have hji28w : (IntKind.i64.wrap ((wrap64 ((a0.size : Int) - (x0_2.size : Int))) + x5_2)) = ji28 := (i64_w _).trans hji28
                    by_cases c29 : 0 ≤ (ji28)
                    · rw [if_pos c29] at H
                      have c29b0 := eq_true c29
                      have c29b1 : decide (0 ≤ (ji28)) = true := decide_eq_true c29
                      clear c29
                      by_cases c30 : (ji28) ≤ (a0.size : Int)
                      · rw [if_pos c30] at H
                        have c30b0 := eq_true c30
                        have c30b1 : decide ((ji28) ≤ (a0.size : Int)) = true := decide_eq_true c30
                        clear c30
                        obtain ⟨ji31, hji31⟩ : ∃ j_ : Int, (wrap64 (x5_2 + 1)) = j_ := ⟨_, rfl⟩
                        replace H : (if 0 ≤ (ji31) then (if (ji31) ≤ (x0_2.size : Int) then (some (a0.extract 0 ((ji28) : Int).toNat, x0_2.extract ((ji31) : Int).toNat x0_2.size, none)) else (none)) else (none)) = some (r1, r2, r3) := by first | (rw [hji31] at H; exact H) | (simp only [hji31] at H ⊢; exact H)
                        have hji31w : (IntKind.i64.wrap (x5_2 + 1)) = ji31 := (i64_w _).trans hji31
                        by_cases c32 : 0 ≤ (ji31)
                        · rw [if_pos c32] at H
                          have c32b0 := eq_true c32
                          have c32b1 : decide (0 ≤ (ji31)) = true := decide_eq_true c32
                          clear c32
                          by_cases c33 : (ji31) ≤ (x0_2.size : Int)
                          · rw [if_pos c33] at H
                            have c33b0 := eq_true c33
                            have c33b1 : decide ((ji31) ≤ (x0_2.size : Int)) = true := decide_eq_true c33
                            clear c33
                            simp only [Option.some.injEq, Prod.mk.injEq] at H
                            obtain ⟨rfl, rfl, rfl⟩ := H
                            try have hcs34 := fun W_ : World => run_slice_string_h (P := Tryd.prog) W_ 9 a0 Tryd.underlying9 .i64 (ji28) (of_decide_eq_true (by first | (with_reducible assumption) | assumption)) (of_decide_eq_true (by first | (with_reducible assumption) | assumption))
                            try have hcs35 := fun W_ : World => run_slice_string_l (P := Tryd.prog) W_ 9 x0_2 Tryd.underlying9 .i64 (ji31) (of_decide_eq_true (by first | (with_reducible assumption) | assumption)) (of_decide_eq_true (by first | (with_reducible assumption) | assumption))
                            go_wp2
                            repeat (go_quiet (fail); try go_wp2)
                            go_ret3
                            exact ⟨0, .nilIface, by first | rfl | (simp [errW_none, errW_some] <;> rfl) | (simp only [← hji28, ← hji31]; first | rfl | (simp [errW_none, errW_some] <;> rfl)) | (simp [*, errW_none, errW_some] <;> rfl), by repeat (first | (with_reducible first | exact HB.out | apply below_alloc | apply pw_below_drewN | apply below_drew1) | exact HB.out)⟩
                          · rw [if_neg c33] at H
                            exact absurd H (by simp)
                        · rw [if_neg c32] at H
                          exact absurd H (by simp)
                      · rw [if_neg c30] at H
                        exact absurd H (by simp)
                    · rw [if_neg c29] at H
                      exact absurd H (by simp)
                  · rw [if_neg c27] at H
                    have c27b0 : ((Int.tmod (IntKind.u64.wrap (wrap64 (x5_2 - x7_19))) 2) == 0) = false := beq_eq_false_iff_ne.mpr c27
                    have c27b1 : ((Int.tmod (IntKind.u64.wrap (wrap64 (x5_2 - x7_19))) 2) != 0) = true := bne_iff_ne.mpr c27
                    obtain ⟨ji36, hji36⟩ : ∃ j_ : Int, (wrap64 (x5_2 + 1)) = j_ := ⟨_, rfl⟩
                    replace H : (if 0 ≤ (ji36) then (if (ji36) ≤ (x0_2.size : Int) then ((strings_IndexByte.f (x0_2.extract ((ji36) : Int).toNat x0_2.size) 34).bind fun t117 => (if t117 < 0 then ((errors_New.f (⟨#[109, 105, 115, 115, 105, 110, 103, 32, 99, 108, 111, 115, 105, 110, 103]⟩ : ByteArray)).bind fun t118 => (some (a0, (⟨#[]⟩ : ByteArray), t118))) else (if t117 = 0 then (if 0 ≤ (wrap64 ((wrap64 ((a0.size : Int) - ((x0_2.extract ((ji36) : Int).toNat x0_2.size).size : Int))) + t117)) then (if (wrap64 ((wrap64 ((a0.size : Int) - ((x0_2.extract ((ji36) : Int).toNat x0_2.size).size : Int))) + t117)) ≤ (a0.size : Int) then (if 0 ≤ (wrap64 (t117 + 1)) then (if (wrap64 (t117 + 1)) ≤ ((x0_2.extract ((ji36) : Int).toNat x0_2.size).size : Int) then (some (a0.extract 0 ((wrap64 ((wrap64 ((a0.size : Int) - ((x0_2.extract ((ji36) : Int).toNat x0_2.size).size : Int))) + t117)) : Int).toNat, (x0_2.extract ((ji36) : Int).toNat x0_2.size).extract ((wrap64 (t117 + 1)) : Int).toNat (x0_2.extract ((ji36) : Int).toNat x0_2.size).size, none)) else (none)) else (none)) else (none)) else (none)) else (if 0 ≤ (wrap64 (t117 - 1)) then (if (wrap64 (t117 - 1)) < ((x0_2.extract ((ji36) : Int).toNat x0_2.size).size : Int) then (if (bt (x0_2.extract ((ji36) : Int).toNat x0_2.size) (wrap64 (t117 - 1))) = 92 then (fastjson_parseRawString.l0 kj19 (x0_2.extract ((ji36) : Int).toNat x0_2.size) t117 a0) else (if 0 ≤ (wrap64 ((wrap64 ((a0.size : Int) - ((x0_2.extract ((ji36) : Int).toNat x0_2.size).size : Int))) + t117)) then (if (wrap64 ((wrap64 ((a0.size : Int) - ((x0_2.extract ((ji36) : Int).toNat x0_2.size).size : Int))) + t117)) ≤ (a0.size : Int) then (if 0 ≤ (wrap64 (t117 + 1)) then (if (wrap64 (t117 + 1)) ≤ ((x0_2.extract ((ji36) : Int).toNat x0_2.size).size : Int) then (some (a0.extract 0 ((wrap64 ((wrap64 ((a0.size : Int) - ((x0_2.extract ((ji36) : Int).toNat x0_2.size).size : Int))) + t117)) : Int).toNat, (x0_2.extract ((ji36) : Int).toNat x0_2.size).extract ((wrap64 (t117 + 1)) : Int).toNat (x0_2.extract ((ji36) : Int).toNat x0_2.size).size, none)) else (none)) else (none)) else (none)) else (none))) else (none)) else (none))))) else (none)) else (none)) = some (r1, r2, r3) := by first | (rw [hji36] at H; exact H) | (simp only [hji36] at H ⊢; exact H)
                    have hji36w : (IntKind.i64.wrap (x5_2 + 1)) = ji36 := (i64_w _).trans hji36
                    by_cases c37 : 0 ≤ (ji36)
                    · rw [if_pos c37] at H
                      have c37b0 := eq_true c37
                      have c37b1 : decide (0 ≤ (ji36)) = true := decide_eq_true c37
                      clear c37
                      by_cases c38 : (ji36) ≤ (x0_2.size : Int)
                      · rw [if_pos c38] at H
                        have c38b0 := eq_true c38
                        have c38b1 : decide ((ji36) ≤ (x0_2.size : Int)) = true := decide_eq_true c38
                        clear c38
                        obtain ⟨js39, hjs39⟩ : ∃ z_ : ByteArray, (x0_2.extract ((ji36) : Int).toNat x0_2.size) = z_ := ⟨_, rfl⟩
                        replace H : ((strings_IndexByte.f js39 34).bind fun t117 => (if t117 < 0 then ((errors_New.f (⟨#[109, 105, 115, 115, 105, 110, 103, 32, 99, 108, 111, 115, 105, 110, 103]⟩ : ByteArray)).bind fun t118 => (some (a0, (⟨#[]⟩ : ByteArray), t118))) else (if t117 = 0 then (if 0 ≤ (wrap64 ((wrap64 ((a0.size : Int) - (js39.size : Int))) + t117)) then (if (wrap64 ((wrap64 ((a0.size : Int) - (js39.size : Int))) + t117)) ≤ (a0.size : Int) then (if 0 ≤ (wrap64 (t117 + 1)) then (if (wrap64 (t117 + 1)) ≤ (js39.size : Int) then (some (a0.extract 0 ((wrap64 ((wrap64 ((a0.size : Int) - (js39.size : Int))) + t117)) : Int).toNat, js39.extract ((wrap64 (t117 + 1)) : Int).toNat js39.size, none)) else (none)) else (none)) else (none)) else (none)) else (if 0 ≤ (wrap64 (t117 - 1)) then (if (wrap64 (t117 - 1)) < (js39.size : Int) then (if (bt js39 (wrap64 (t117 - 1))) = 92 then (fastjson_parseRawString.l0 kj19 js39 t117 a0) else (if 0 ≤ (wrap64 ((wrap64 ((a0.size : Int) - (js39.size : Int))) + t117)) then (if (wrap64 ((wrap64 ((a0.size : Int) - (js39.size : Int))) + t117)) ≤ (a0.size : Int) then (if 0 ≤ (wrap64 (t117 + 1)) then (if (wrap64 (t117 + 1)) ≤ (js39.size : Int) then (some (a0.extract 0 ((wrap64 ((wrap64 ((a0.size : Int) - (js39.size : Int))) + t117)) : Int).toNat, js39.extract ((wrap64 (t117 + 1)) : Int).toNat js39.size, none)) else (none)) else (none)) else (none)) else (none))) else (none)) else (none))))) = some (r1, r2, r3) := by first | (rw [hjs39] at H; exact H) | (simp only [hjs39] at H ⊢; exact H)
                        replace H := Option.bind_eq_some_iff.mp H
                        obtain ⟨t117, A400, H⟩ := H
                        replace H : (if t117 < 0 then ((errors_New.f (⟨#[109, 105, 115, 115, 105, 110, 103, 32, 99, 108, 111, 115, 105, 110, 103]⟩ : ByteArray)).bind fun t118 => (some (a0, (⟨#[]⟩ : ByteArray), t118))) else (if t117 = 0 then (if 0 ≤ (wrap64 ((wrap64 ((a0.size : Int) - (js39.size : Int))) + t117)) then (if (wrap64 ((wrap64 ((a0.size : Int) - (js39.size : Int))) + t117)) ≤ (a0.size : Int) then (if 0 ≤ (wrap64 (t117 + 1)) then (if (wrap64 (t117 + 1)) ≤ (js39.size : Int) then (some (a0.extract 0 ((wrap64 ((wrap64 ((a0.size : Int) - (js39.size : Int))) + t117)) : Int).toNat, js39.extract ((wrap64 (t117 + 1)) : Int).toNat js39.size, none)) else (none)) else (none)) else (none)) else (none)) else (if 0 ≤ (wrap64 (t117 - 1)) then (if (wrap64 (t117 - 1)) < (js39.size : Int) then (if (bt js39 (wrap64 (t117 - 1))) = 92 then (fastjson_parseRawString.l0 kj19 js39 t117 a0) else (if 0 ≤ (wrap64 ((wrap64 ((a0.size : Int) - (js39.size : Int))) + t117)) then (if (wrap64 ((wrap64 ((a0.size : Int) - (js39.size : Int))) + t117)) ≤ (a0.size : Int) then (if 0 ≤ (wrap64 (t117 + 1)) then (if (wrap64 (t117 + 1)) ≤ (js39.size : Int) then (some (a0.extract 0 ((wrap64 ((wrap64 ((a0.size : Int) - (js39.size : Int))) + t117)) : Int).toNat, js39.extract ((wrap64 (t117 + 1)) : Int).toNat js39.size, none)) else (none)) else (none)) else (none)) else (none))) else (none)) else (none)))) = some (r1, r2, r3) := H
                        have A40 := Aside0.mk A400
                        clear A400
                        by_cases c41 : t117 < 0
                        · rw [if_pos c41] at H
                          have c41b0 : decide (t117 < 0) = true := decide_eq_true c41
                          clear c41
                          replace H := Option.bind_eq_some_iff.mp H
                          obtain ⟨t118, A420, H⟩ := H
                          replace H : (some (a0, (⟨#[]⟩ : ByteArray), t118)) = some (r1, r2, r3) := H
                          have A42 := Aside0.mk A420
                          clear A420
                          simp only [Option.some.injEq, Prod.mk.injEq] at H
                          obtain ⟨rfl, rfl, rfl⟩ := H
                          try have hcs43 := fun W_ : World => run_slice_string_l (P := Tryd.prog) W_ 9 x0_2 Tryd.underlying9 .i64 (ji36) (of_decide_eq_true (by first | (with_reducible assumption) | assumption)) (of_decide_eq_true (by first | (with_reducible assumption) | assumption))
                          (try simp only [hjs39] at hcs43)
                          go_wp2_with (first | (go_at_call 98; (with_reducible refine (strings_IndexByte.calls js39 34 t117 _ A40.out).mono ?_); rintro e w' ⟨rfl, ⟨nd, rfl⟩⟩; (try first | exact ⟨rfl, _, World.drewN_drewN _ _ _⟩ | exact ⟨rfl, _, Eq.trans (World.drewN_drewN _ _ _) (congrArg (World.drewN _) (Nat.add_assoc _ _ _))⟩)) | (go_at_call 81; (with_reducible refine (errors_New.calls (⟨#[109, 105, 115, 115, 105, 110, 103, 32, 99, 108, 111, 115, 105, 110, 103]⟩ : ByteArray) t118 _ A42.out).mono ?_); rintro e w44 ⟨et_A42_0, ep_A42_0, rfl, hb⟩; have n0_ := Aside0.mk (below_step (by repeat (first | (with_reducible first | exact HB.out | apply below_alloc | apply pw_below_drewN | apply below_drew1) | exact HB.out)) hb); clear HB; have HB := n0_; clear n0_; (try clear hb); (try clear hb2); (try clear hk); (try clear hi); (try simp only [errW_none, errW_some, errX_none, errX_some])))
                          repeat (go_quiet (first | (go_at_call 98; (with_reducible refine (strings_IndexByte.calls js39 34 t117 _ A40.out).mono ?_); rintro e w' ⟨rfl, ⟨nd, rfl⟩⟩; (try first | exact ⟨rfl, _, World.drewN_drewN _ _ _⟩ | exact ⟨rfl, _, Eq.trans (World.drewN_drewN _ _ _) (congrArg (World.drewN _) (Nat.add_assoc _ _ _))⟩)) | (go_at_call 81; (with_reducible refine (errors_New.calls (⟨#[109, 105, 115, 115, 105, 110, 103, 32, 99, 108, 111, 115, 105, 110, 103]⟩ : ByteArray) t118 _ A42.out).mono ?_); rintro e w44 ⟨et_A42_0, ep_A42_0, rfl, hb⟩; have n0_ := Aside0.mk (below_step (by repeat (first | (with_reducible first | exact HB.out | apply below_alloc | apply pw_below_drewN | apply below_drew1) | exact HB.out)) hb); clear HB; have HB := n0_; clear n0_; (try clear hb); (try clear hb2); (try clear hk); (try clear hi); (try simp only [errW_none, errW_some, errX_none, errX_some]))); try go_wp2_with (first | (go_at_call 98; (with_reducible refine (strings_IndexByte.calls js39 34 t117 _ A40.out).mono ?_); rintro e w' ⟨rfl, ⟨nd, rfl⟩⟩; (try first | exact ⟨rfl, _, World.drewN_drewN _ _ _⟩ | exact ⟨rfl, _, Eq.trans (World.drewN_drewN _ _ _) (congrArg (World.drewN _) (Nat.add_assoc _ _ _))⟩)) | (go_at_call 81; (with_reducible refine (errors_New.calls (⟨#[109, 105, 115, 115, 105, 110, 103, 32, 99, 108, 111, 115, 105, 110, 103]⟩ : ByteArray) t118 _ A42.out).mono ?_); rintro e w44 ⟨et_A42_0, ep_A42_0, rfl, hb⟩; have n0_ := Aside0.mk (below_step (by repeat (first | (with_reducible first | exact HB.out | apply below_alloc | apply pw_below_drewN | apply below_drew1) | exact HB.out)) hb); clear HB; have HB := n0_; clear n0_; (try clear hb); (try clear hb2); (try clear hk); (try clear hi); (try simp only [errW_none, errW_some, errX_none, errX_some]))))
                          go_ret3
                          exact ⟨et_A42_0, ep_A42_0, by first | rfl | (simp [errW_none, errW_some] <;> rfl) | (simp only [← hji36]; first | rfl | (simp [errW_none, errW_some] <;> rfl)) | (simp [*, errW_none, errW_some] <;> rfl), by repeat (first | (with_reducible first | exact HB.out | apply below_alloc | apply pw_below_drewN | apply below_drew1) | exact HB.out)⟩
                        · rw [if_neg c41] at H
                          have c41b0 : decide (t117 < 0) = false := decide_eq_false c41
                          clear c41
                          by_cases c45 : t117 = 0
                          · rw [if_pos c45] at H
                            have c45b0 : (t117 == 0) = true := beq_iff_eq.mpr c45
                            have c45b1 : (t117 != 0) = false := bne_eq_false_iff_eq.mpr c45
                            clear c45
                            obtain ⟨ji46, hji46⟩ : ∃ j_ : Int, (wrap64 ((wrap64 ((a0.size : Int) - (js39.size : Int))) + t117)) = j_ := ⟨_, rfl⟩
                            replace H : (if 0 ≤ (ji46) then (if (ji46) ≤ (a0.size : Int) then (if 0 ≤ (wrap64 (t117 + 1)) then (if (wrap64 (t117 + 1)) ≤ (js39.size : Int) then (some (a0.extract 0 ((ji46) : Int).toNat, js39.extract ((wrap64 (t117 + 1)) : Int).toNat js39.size, none)) else (none)) else (none)) else (none)) else (none)) = some (r1, r2, r3) := by first | (rw [hji46] at H; exact H) | (simp only [hji46] at H ⊢; exact H)
                            (try rw [hji46] at A40)
                            have hji46w : (IntKind.i64.wrap ((wrap64 ((a0.size : Int) - (js39.size : Int))) + t117)) = ji46 := (i64_w _).trans hji46
                            by_cases c47 : 0 ≤ (ji46)
                            · rw [if_pos c47] at H
                              have c47b0 := eq_true c47
                              have c47b1 : decide (0 ≤ (ji46)) = true := decide_eq_true c47
                              clear c47
                              by_cases c48 : (ji46) ≤ (a0.size : Int)
                              · rw [if_pos c48] at H
                                have c48b0 := eq_true c48
                                have c48b1 : decide ((ji46) ≤ (a0.size : Int)) = true := decide_eq_true c48
                                clear c48
                                obtain ⟨ji49, hji49⟩ : ∃ j_ : Int, (wrap64 (t117 + 1)) = j_ := ⟨_, rfl⟩
                                replace H : (if 0 ≤ (ji49) then (if (ji49) ≤ (js39.size : Int) then (some (a0.extract 0 ((ji46) : Int).toNat, js39.extract ((ji49) : Int).toNat js39.size, none)) else (none)) else (none)) = some (r1, r2, r3) := by first | (rw [hji49] at H; exact H) | (simp only [hji49] at H ⊢; exact H)
                                (try rw [hji49] at A40)
                                have hji49w : (IntKind.i64.wrap (t117 + 1)) = ji49 := (i64_w _).trans hji49
                                by_cases c50 : 0 ≤ (ji49)
                                · rw [if_pos c50] at H
                                  have c50b0 := eq_true c50
                                  have c50b1 : decide (0 ≤ (ji49)) = true := decide_eq_true c50
                                  clear c50
                                  by_cases c51 : (ji49) ≤ (js39.size : Int)
                                  · rw [if_pos c51] at H
                                    have c51b0 := eq_true c51
                                    have c51b1 : decide ((ji49) ≤ (js39.size : Int)) = true := decide_eq_true c51
                                    clear c51
                                    simp only [Option.some.injEq, Prod.mk.injEq] at H
                                    obtain ⟨rfl, rfl, rfl⟩ := H
                                    try have hcs52 := fun W_ : World => run_slice_string_l (P := Tryd.prog) W_ 9 x0_2 Tryd.underlying9 .i64 (ji36) (of_decide_eq_true (by first | (with_reducible assumption) | assumption)) (of_decide_eq_true (by first | (with_reducible assumption) | assumption))
                                    (try simp only [hjs39] at hcs52)
                                    go_wp2_with (first | (go_at_call 98; (with_reducible refine (strings_IndexByte.calls js39 34 t117 _ A40.out).mono ?_); rintro e w' ⟨rfl, ⟨nd, rfl⟩⟩; (try first | exact ⟨rfl, _, World.drewN_drewN _ _ _⟩ | exact ⟨rfl, _, Eq.trans (World.drewN_drewN _ _ _) (congrArg (World.drewN _) (Nat.add_assoc _ _ _))⟩); try have hcs53 := fun W_ : World => run_slice_string_h (P := Tryd.prog) W_ 9 a0 Tryd.underlying9 .i64 (ji46) (of_decide_eq_true (by first | (with_reducible assumption) | assumption)) (of_decide_eq_true (by first | (with_reducible assumption) | assumption)); try have hcs54 := fun W_ : World => run_slice_string_l (P := Tryd.prog) W_ 9 js39 Tryd.underlying9 .i64 (ji49) (of_decide_eq_true (by first | (with_reducible assumption) | assumption)) (of_decide_eq_true (by first | (with_reducible assumption) | assumption))))
                                    repeat (go_quiet (first | (go_at_call 98; (with_reducible refine (strings_IndexByte.calls js39 34 t117 _ A40.out).mono ?_); rintro e w' ⟨rfl, ⟨nd, rfl⟩⟩; (try first | exact ⟨rfl, _, World.drewN_drewN _ _ _⟩ | exact ⟨rfl, _, Eq.trans (World.drewN_drewN _ _ _) (congrArg (World.drewN _) (Nat.add_assoc _ _ _))⟩); try have hcs53 := fun W_ : World => run_slice_string_h (P := Tryd.prog) W_ 9 a0 Tryd.underlying9 .i64 (ji46) (of_decide_eq_true (by first | (with_reducible assumption) | assumption)) (of_decide_eq_true (by first | (with_reducible assumption) | assumption)); try have hcs54 := fun W_ : World => run_slice_string_l (P := Tryd.prog) W_ 9 js39 Tryd.underlying9 .i64 (ji49) (of_decide_eq_true (by first | (with_reducible assumption) | assumption)) (of_decide_eq_true (by first | (with_reducible assumption) | assumption)))); try go_wp2_with (first | (go_at_call 98; (with_reducible refine (strings_IndexByte.calls js39 34 t117 _ A40.out).mono ?_); rintro e w' ⟨rfl, ⟨nd, rfl⟩⟩; (try first | exact ⟨rfl, _, World.drewN_drewN _ _ _⟩ | exact ⟨rfl, _, Eq.trans (World.drewN_drewN _ _ _) (congrArg (World.drewN _) (Nat.add_assoc _ _ _))⟩); try have hcs53 := fun W_ : World => run_slice_string_h (P := Tryd.prog) W_ 9 a0 Tryd.underlying9 .i64 (ji46) (of_decide_eq_true (by first | (with_reducible assumption) | assumption)) (of_decide_eq_true (by first | (with_reducible assumption) | assumption)); try have hcs54 := fun W_ : World => run_slice_string_l (P := Tryd.prog) W_ 9 js39 Tryd.underlying9 .i64 (ji49) (of_decide_eq_true (by first | (with_reducible assumption) | assumption)) (of_decide_eq_true (by first | (with_reducible assumption) | assumption)))))
                                    go_ret3
                                    exact ⟨0, .nilIface, by first | rfl | (simp [errW_none, errW_some] <;> rfl) | (simp only [← hji36, ← hji46, ← hji49]; first | rfl | (simp [errW_none, errW_some] <;> rfl)) | (simp [*, errW_none, errW_some] <;> rfl), by repeat (first | (with_reducible first | exact HB.out | apply below_alloc | apply pw_below_drewN | apply below_drew1) | exact HB.out)⟩
                                  · rw [if_neg c51] at H
                                    exact absurd H (by simp)
                                · rw [if_neg c50] at H
                                  exact absurd H (by simp)
                              · rw [if_neg c48] at H
                                exact absurd H (by simp)
                            · rw [if_neg c47] at H
                              exact absurd H (by simp)
                          · rw [if_neg c45] at H
                            have c45b0 : (t117 == 0) = false := beq_eq_false_iff_ne.mpr c45
                            have c45b1 : (t117 != 0) = true := bne_iff_ne.mpr c45
                            obtain ⟨ji55, hji55⟩ : ∃ j_ : Int, (wrap64 (t117 - 1)) = j_ := ⟨_, rfl⟩
                            replace H : (if 0 ≤ (ji55) then (if (ji55) < (js39.size : Int) then (if (bt js39 (ji55)) = 92 then (fastjson_parseRawString.l0 kj19 js39 t117 a0) else (if 0 ≤ (wrap64 ((wrap64 ((a0.size : Int) - (js39.size : Int))) + t117)) then (if (wrap64 ((wrap64 ((a0.size : Int) - (js39.size : Int))) + t117)) ≤ (a0.size : Int) then (if 0 ≤ (wrap64 (t117 + 1)) then (if (wrap64 (t117 + 1)) ≤ (js39.size : Int) then (some (a0.extract 0 ((wrap64 ((wrap64 ((a0.size : Int) - (js39.size : Int))) + t117)) : Int).toNat, js39.extract ((wrap64 (t117 + 1)) : Int).toNat js39.size, none)) else (none)) else (none)) else (none)) else (none))) else (none)) else (none)) = some (r1, r2, r3) := by first | (rw [hji55] at H; exact H) | (simp only [hji55] at H ⊢; exact H)
                            (try rw [hji55] at A40)
                            have hji55w : (IntKind.i64.wrap (t117 - 1)) = ji55 := (i64_w _).trans hji55
                            by_cases c56 : 0 ≤ (ji55)
                            · rw [if_pos c56] at H
                              have c56b0 : decide (0 ≤ (ji55)) = true := decide_eq_true c56
                              clear c56
                              by_cases c57 : (ji55) < (js39.size : Int)
                              · rw [if_pos c57] at H
                                have c57b0 : decide ((ji55) < (js39.size : Int)) = true := decide_eq_true c57
                                clear c57
                                by_cases c59 : (bt js39 (ji55)) = 92
                                · rw [if_pos c59] at H
                                  have c59b0 : ((bt js39 (ji55)) == 92) = true := beq_iff_eq.mpr c59
                                  have c59b1 : ((bt js39 (ji55)) != 92) = false := bne_eq_false_iff_eq.mpr c59
                                  clear c59
                                  have H' := Aside0.mk H
                                  clear H
                                  try have hcs60 := fun W_ : World => run_slice_string_l (P := Tryd.prog) W_ 9 x0_2 Tryd.underlying9 .i64 (ji36) (of_decide_eq_true (by first | (with_reducible assumption) | assumption)) (of_decide_eq_true (by first | (with_reducible assumption) | assumption))
                                  (try simp only [hjs39] at hcs60)
                                  go_wp2_with (first | (go_at_call 98; (with_reducible refine (strings_IndexByte.calls js39 34 t117 _ A40.out).mono ?_); rintro e w' ⟨rfl, ⟨nd, rfl⟩⟩; (try first | exact ⟨rfl, _, World.drewN_drewN _ _ _⟩ | exact ⟨rfl, _, Eq.trans (World.drewN_drewN _ _ _) (congrArg (World.drewN _) (Nat.add_assoc _ _ _))⟩); have p58 : 0 ≤ ((ji55) : Int) := of_decide_eq_true (by first | (with_reducible assumption) | assumption); have q58 : (ji55) < (js39.size : Int) := of_decide_eq_true (by first | (with_reducible assumption) | assumption); have hx58 := bt_at js39 (ji55); replace p58 := eq_true p58; replace q58 := eq_true q58))
                                  repeat (go_quiet (first | (go_at_call 98; (with_reducible refine (strings_IndexByte.calls js39 34 t117 _ A40.out).mono ?_); rintro e w' ⟨rfl, ⟨nd, rfl⟩⟩; (try first | exact ⟨rfl, _, World.drewN_drewN _ _ _⟩ | exact ⟨rfl, _, Eq.trans (World.drewN_drewN _ _ _) (congrArg (World.drewN _) (Nat.add_assoc _ _ _))⟩); have p58 : 0 ≤ ((ji55) : Int) := of_decide_eq_true (by first | (with_reducible assumption) | assumption); have q58 : (ji55) < (js39.size : Int) := of_decide_eq_true (by first | (with_reducible assumption) | assumption); have hx58 := bt_at js39 (ji55); replace p58 := eq_true p58; replace q58 := eq_true q58)); try go_wp2_with (first | (go_at_call 98; (with_reducible refine (strings_IndexByte.calls js39 34 t117 _ A40.out).mono ?_); rintro e w' ⟨rfl, ⟨nd, rfl⟩⟩; (try first | exact ⟨rfl, _, World.drewN_drewN _ _ _⟩ | exact ⟨rfl, _, Eq.trans (World.drewN_drewN _ _ _) (congrArg (World.drewN _) (Nat.add_assoc _ _ _))⟩); have p58 : 0 ≤ ((ji55) : Int) := of_decide_eq_true (by first | (with_reducible assumption) | assumption); have q58 : (ji55) < (js39.size : Int) := of_decide_eq_true (by first | (with_reducible assumption) | assumption); have hx58 := bt_at js39 (ji55); replace p58 := eq_true p58; replace q58 := eq_true q58)))
                                  go_roundg kj19
                                  case measure => have := HJ5.out; have := HK2.out; have := HJ19.out; omega
                                  case rel => exact ⟨(js39), (t117), (by first | rfl | (simp; done) | (simp [*]; done)), (by first | rfl | (simp; done) | (simp [*]; done)), H', ⟨by have := HJ5.out; have := HK2.out; have := HJ19.out; omega⟩, ⟨by repeat (first | (with_reducible first | exact HB.out | apply below_alloc | apply pw_below_drewN | apply below_drew1) | exact HB.out)⟩⟩
                                · rw [if_neg c59] at H
                                  have c59b0 : ((bt js39 (ji55)) == 92) = false := beq_eq_false_iff_ne.mpr c59
                                  have c59b1 : ((bt js39 (ji55)) != 92) = true := bne_iff_ne.mpr c59
                                  obtain ⟨ji61, hji61⟩ : ∃ j_ : Int, (wrap64 ((wrap64 ((a0.size : Int) - (js39.size : Int))) + t117)) = j_ := ⟨_, rfl⟩
                                  replace H : (if 0 ≤ (ji61) then (if (ji61) ≤ (a0.size : Int) then (if 0 ≤ (wrap64 (t117 + 1)) then (if (wrap64 (t117 + 1)) ≤ (js39.size : Int) then (some (a0.extract 0 ((ji61) : Int).toNat, js39.extract ((wrap64 (t117 + 1)) : Int).toNat js39.size, none)) else (none)) else (none)) else (none)) else (none)) = some (r1, r2, r3) := by first | (rw [hji61] at H; exact H) | (simp only [hji61] at H ⊢; exact H)
                                  (try rw [hji61] at A40)
                                  have hji61w : (IntKind.i64.wrap ((wrap64 ((a0.size : Int) - (js39.size : Int))) + t117)) = ji61 := (i64_w _).trans hji61
                                  by_cases c62 : 0 ≤ (ji61)
                                  · rw [if_pos c62] at H
                                    have c62b0 := eq_true c62
                                    have c62b1 : decide (0 ≤ (ji61)) = true := decide_eq_true c62
                                    clear c62
                                    by_cases c63 : (ji61) ≤ (a0.size : Int)
                                    · rw [if_pos c63] at H
                                      have c63b0 := eq_true c63
                                      have c63b1 : decide ((ji61) ≤ (a0.size : Int)) = true := decide_eq_true c63
                                      clear c63
                                      obtain ⟨ji64, hji64⟩ : ∃ j_ : Int, (wrap64 (t117 + 1)) = j_ := ⟨_, rfl⟩
                                      replace H : (if 0 ≤ (ji64) then (if (ji64) ≤ (js39.size : Int) then (some (a0.extract 0 ((ji61) : Int).toNat, js39.extract ((ji64) : Int).toNat js39.size, none)) else (none)) else (none)) = some (r1, r2, r3) := by first | (rw [hji64] at H; exact H) | (simp only [hji64] at H ⊢; exact H)
                                      (try rw [hji64] at A40)
                                      have hji64w : (IntKind.i64.wrap (t117 + 1)) = ji64 := (i64_w _).trans hji64
                                      by_cases c65 : 0 ≤ (ji64)
                                      · rw [if_pos c65] at H
                                        have c65b0 := eq_true c65
                                        have c65b1 : decide (0 ≤ (ji64)) = true := decide_eq_true c65
                                        clear c65
                                        by_cases c66 : (ji64) ≤ (js39.size : Int)
                                        · rw [if_pos c66] at H
                                          have c66b0 := eq_true c66
                                          have c66b1 : decide ((ji64) ≤ (js39.size : Int)) = true := decide_eq_true c66
                                          clear c66
                                          simp only [Option.some.injEq, Prod.mk.injEq] at H
                                          obtain ⟨rfl, rfl, rfl⟩ := H
                                          try have hcs67 := fun W_ : World => run_slice_string_l (P := Tryd.prog) W_ 9 x0_2 Tryd.underlying9 .i64 (ji36) (of_decide_eq_true (by first | (with_reducible assumption) | assumption)) (of_decide_eq_true (by first | (with_reducible assumption) | assumption))
                                          (try simp only [hjs39] at hcs67)
                                          go_wp2_with (first | (go_at_call 98; (with_reducible refine (strings_IndexByte.calls js39 34 t117 _ A40.out).mono ?_); rintro e w' ⟨rfl, ⟨nd, rfl⟩⟩; (try first | exact ⟨rfl, _, World.drewN_drewN _ _ _⟩ | exact ⟨rfl, _, Eq.trans (World.drewN_drewN _ _ _) (congrArg (World.drewN _) (Nat.add_assoc _ _ _))⟩); have p58 : 0 ≤ ((ji55) : Int) := of_decide_eq_true (by first | (with_reducible assumption) | assumption); have q58 : (ji55) < (js39.size : Int) := of_decide_eq_true (by first | (with_reducible assumption) | assumption); have hx58 := bt_at js39 (ji55); replace p58 := eq_true p58; replace q58 := eq_true q58; try have hcs68 := fun W_ : World => run_slice_string_h (P := Tryd.prog) W_ 9 a0 Tryd.underlying9 .i64 (ji61) (of_decide_eq_true (by first | (with_reducible assumption) | assumption)) (of_decide_eq_true (by first | (with_reducible assumption) | assumption)); try have hcs69 := fun W_ : World => run_slice_string_l (P := Tryd.prog) W_ 9 js39 Tryd.underlying9 .i64 (ji64) (of_decide_eq_true (by first | (with_reducible assumption) | assumption)) (of_decide_eq_true (by first | (with_reducible assumption) | assumption))))
                                          repeat (go_quiet (first | (go_at_call 98; (with_reducible refine (strings_IndexByte.calls js39 34 t117 _ A40.out).mono ?_); rintro e w' ⟨rfl, ⟨nd, rfl⟩⟩; (try first | exact ⟨rfl, _, World.drewN_drewN _ _ _⟩ | exact ⟨rfl, _, Eq.trans (World.drewN_drewN _ _ _) (congrArg (World.drewN _) (Nat.add_assoc _ _ _))⟩); have p58 : 0 ≤ ((ji55) : Int) := of_decide_eq_true (by first | (with_reducible assumption) | assumption); have q58 : (ji55) < (js39.size : Int) := of_decide_eq_true (by first | (with_reducible assumption) | assumption); have hx58 := bt_at js39 (ji55); replace p58 := eq_true p58; replace q58 := eq_true q58; try have hcs68 := fun W_ : World => run_slice_string_h (P := Tryd.prog) W_ 9 a0 Tryd.underlying9 .i64 (ji61) (of_decide_eq_true (by first | (with_reducible assumption) | assumption)) (of_decide_eq_true (by first | (with_reducible assumption) | assumption)); try have hcs69 := fun W_ : World => run_slice_string_l (P := Tryd.prog) W_ 9 js39 Tryd.underlying9 .i64 (ji64) (of_decide_eq_true (by first | (with_reducible assumption) | assumption)) (of_decide_eq_true (by first | (with_reducible assumption) | assumption)))); try go_wp2_with (first | (go_at_call 98; (with_reducible refine (strings_IndexByte.calls js39 34 t117 _ A40.out).mono ?_); rintro e w' ⟨rfl, ⟨nd, rfl⟩⟩; (try first | exact ⟨rfl, _, World.drewN_drewN _ _ _⟩ | exact ⟨rfl, _, Eq.trans (World.drewN_drewN _ _ _) (congrArg (World.drewN _) (Nat.add_assoc _ _ _))⟩); have p58 : 0 ≤ ((ji55) : Int) := of_decide_eq_true (by first | (with_reducible assumption) | assumption); have q58 : (ji55) < (js39.size : Int) := of_decide_eq_true (by first | (with_reducible assumption) | assumption); have hx58 := bt_at js39 (ji55); replace p58 := eq_true p58; replace q58 := eq_true q58; try have hcs68 := fun W_ : World => run_slice_string_h (P := Tryd.prog) W_ 9 a0 Tryd.underlying9 .i64 (ji61) (of_decide_eq_true (by first | (with_reducible assumption) | assumption)) (of_decide_eq_true (by first | (with_reducible assumption) | assumption)); try have hcs69 := fun W_ : World => run_slice_string_l (P := Tryd.prog) W_ 9 js39 Tryd.underlying9 .i64 (ji64) (of_decide_eq_true (by first | (with_reducible assumption) | assumption)) (of_decide_eq_true (by first | (with_reducible assumption) | assumption)))))
                                          go_ret3
                                          exact ⟨0, .nilIface, by first | rfl | (simp [errW_none, errW_some] <;> rfl) | (simp only [← hji36, ← hji55, ← hji61, ← hji64]; first | rfl | (simp [errW_none, errW_some] <;> rfl)) | (simp [*, errW_none, errW_some] <;> rfl), by repeat (first | (with_reducible first | exact HB.out | apply below_alloc | apply pw_below_drewN | apply below_drew1) | exact HB.out)⟩
                                        · rw [if_neg c66] at H
                                          exact absurd H (by simp)
                                      · rw [if_neg c65] at H
                                        exact absurd H (by simp)
                                    · rw [if_neg c63] at H
                                      exact absurd H (by simp)
                                  · rw [if_neg c62] at H
                                    exact absurd H (by simp)
                              · rw [if_neg c57] at H
                                exact absurd H (by simp)
                            · rw [if_neg c56] at H
                              exact absurd H (by simp)
                      · rw [if_neg c38] at H
                        exact absurd H (by simp)
                    · rw [if_neg c37] at H
                      exact absurd H (by simp)

end Go.Proofs.YtfpbbnllaogclaaDoor.PG
