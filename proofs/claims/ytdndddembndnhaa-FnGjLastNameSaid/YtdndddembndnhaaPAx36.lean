-- Written by a program of this session out of the translation (a changed copy of the kit's print); Lean checks it.
import Derived.Test.YtdndddembndnhaaPAx0
import Derived.Test.YtdndddembndnhaaPAx28
import Derived.Test.YtdndddembndnhaaPAx29
import Derived.Test.YtdndddembndnhaaPAx32
import Derived.Test.YtdndddembndnhaaPAx35
namespace Go.Proofs.Ytdndddembndnhaa.PA
open Go.RowKit Go.Proofs.YtdndddembndnhaaW.PrintWords Go.Proofs.YtdndddembndnhaaW.PrintLast Go.Proofs.YtdndddembndnhaaW.PrintMore
attribute [local go_sem] max2_int min2_int max_two min_two max_three min_three max_four min_four   -- for this text's walks alone
set_option linter.unusedVariables false
set_option linter.unusedSimpArgs false

/-! ### laws_FnGjLastName: function 3 -/
mutual
def laws_FnGjLastName.j0 : Nat → List ByteArray → Int → Bool → Option (Bool)
  | 0, _, _, _ => none
  | k + 1, x0, x1, x17 => if x17 = true then (some true) else (laws_FnGjLastName.l0 k x0 x1 (⟨#[]⟩ : ByteArray) (x0.length : Int) 0)
def laws_FnGjLastName.l0 : Nat → List ByteArray → Int → ByteArray → Int → Int → Option (Bool)
  | 0, _, _, _, _, _ => none
  | k + 1, x0, x1, x5, x19, x20 => if x20 < x19 then (if x20 < (wrap64 ((x0.length : Int) - 1)) then (if 0 ≤ x20 then (if x20 < (x0.length : Int) then (if 0 ≤ (wrap64 (((rdOf ByteArray.empty x0 x20).size : Int) - 1)) then (if (wrap64 (((rdOf ByteArray.empty x0 x20).size : Int) - 1)) < ((rdOf ByteArray.empty x0 x20).size : Int) then (laws_FnGjLastName.j2 k x0 x1 x5 x20 x19 x20 ((bt (rdOf ByteArray.empty x0 x20) (wrap64 (((rdOf ByteArray.empty x0 x20).size : Int) - 1))) == 92)) else (none)) else (none)) else (none)) else (none)) else (laws_FnGjLastName.j2 k x0 x1 x5 x20 x19 x20 false)) else ((impl_GjLastName.f k x5).bind fun t371 => (if 0 ≤ (wrap64 ((x0.length : Int) - 1)) then (if (wrap64 ((x0.length : Int) - 1)) ≤ (x0.length : Int) then ((spec_PathOf.f k (x0.drop ((wrap64 ((x0.length : Int) - 1)) : Int).toNat)).bind fun t373 => (some (t371.toList == t373.toList))) else (none)) else (none)))
def laws_FnGjLastName.j2 : Nat → List ByteArray → Int → ByteArray → Int → Int → Int → Bool → Option (Bool)
  | 0, _, _, _, _, _, _, _ => none
  | k + 1, x0, x1, x5, x6, x19, x20, x41 => if x41 = true then (some true) else (if x6 > 0 then (if 0 ≤ (IntKind.u64.wrap (x6)) then (laws_FnGjLastName.j3 k x0 x1 x5 x6 x19 x20 ((Go.bits .and .u64 (shr .u64 x1 (IntKind.u64.wrap (x6))) 1) == 1)) else (none)) else (laws_FnGjLastName.j3 k x0 x1 x5 x6 x19 x20 false))
def laws_FnGjLastName.j3 : Nat → List ByteArray → Int → ByteArray → Int → Int → Int → Bool → Option (Bool)
  | 0, _, _, _, _, _, _, _ => none
  | k + 1, x0, x1, x5, x6, x19, x20, x42 => if x42 = true then (if x5.size + 1 ≤ 9223372036854775807 then (if 0 ≤ x6 then (if x6 ≤ (wrap64 (x6 + 1)) then (if (wrap64 (x6 + 1)) ≤ (x0.length : Int) then ((spec_PathOf.f k ((x0.take ((wrap64 (x6 + 1)) : Int).toNat).drop (x6 : Int).toNat)).bind fun t377 => (if x5.size + 1 + t377.size ≤ 9223372036854775807 then (laws_FnGjLastName.l0 k x0 x1 ((x5 ++ (⟨#[124]⟩ : ByteArray)) ++ t377) x19 (wrap64 (x20 + 1))) else (none))) else (none)) else (none)) else (none)) else (none)) else (if x6 > 0 then (if x5.size + 1 ≤ 9223372036854775807 then (if 0 ≤ x6 then (if x6 ≤ (wrap64 (x6 + 1)) then (if (wrap64 (x6 + 1)) ≤ (x0.length : Int) then ((spec_PathOf.f k ((x0.take ((wrap64 (x6 + 1)) : Int).toNat).drop (x6 : Int).toNat)).bind fun t379 => (if x5.size + 1 + t379.size ≤ 9223372036854775807 then (laws_FnGjLastName.l0 k x0 x1 ((x5 ++ (⟨#[46]⟩ : ByteArray)) ++ t379) x19 (wrap64 (x20 + 1))) else (none))) else (none)) else (none)) else (none)) else (none)) else (if 0 ≤ x6 then (if x6 ≤ (wrap64 (x6 + 1)) then (if (wrap64 (x6 + 1)) ≤ (x0.length : Int) then ((spec_PathOf.f k ((x0.take ((wrap64 (x6 + 1)) : Int).toNat).drop (x6 : Int).toNat)).bind fun t381 => (if x5.size + t381.size ≤ 9223372036854775807 then (laws_FnGjLastName.l0 k x0 x1 (x5 ++ t381) x19 (wrap64 (x20 + 1))) else (none))) else (none)) else (none)) else (none)))
end
def laws_FnGjLastName.f (k : Nat) (l0 : List ByteArray) (a1 : Int) : Option (Bool) := (laws_zzFits1.f k l0).bind fun t369 => (if t369 = true then ((laws_gjRest.f k l0).bind fun t370 => (if t370 = true then (laws_FnGjLastName.j0 k l0 a1 (decide ((l0.length : Int) > 64))) else (laws_FnGjLastName.j0 k l0 a1 true))) else (some true))
theorem laws_FnGjLastName.mono_l : ∀ k, (∀ y0 y1 y2, LeO (laws_FnGjLastName.j0 k y0 y1 y2) (laws_FnGjLastName.j0 (k + 1) y0 y1 y2)) ∧ (∀ y0 y1 y2 y3 y4, LeO (laws_FnGjLastName.l0 k y0 y1 y2 y3 y4) (laws_FnGjLastName.l0 (k + 1) y0 y1 y2 y3 y4)) ∧ (∀ y0 y1 y2 y3 y4 y5 y6, LeO (laws_FnGjLastName.j2 k y0 y1 y2 y3 y4 y5 y6) (laws_FnGjLastName.j2 (k + 1) y0 y1 y2 y3 y4 y5 y6)) ∧ (∀ y0 y1 y2 y3 y4 y5 y6, LeO (laws_FnGjLastName.j3 k y0 y1 y2 y3 y4 y5 y6) (laws_FnGjLastName.j3 (k + 1) y0 y1 y2 y3 y4 y5 y6))
  | 0 => ⟨fun _ _ _ r h => by simp [laws_FnGjLastName.j0] at h, fun _ _ _ _ _ r h => by simp [laws_FnGjLastName.l0] at h, fun _ _ _ _ _ _ _ r h => by simp [laws_FnGjLastName.j2] at h, fun _ _ _ _ _ _ _ r h => by simp [laws_FnGjLastName.j3] at h⟩
  | k + 1 => by
    obtain ⟨ih0, ih1, ih2, ih3⟩ := laws_FnGjLastName.mono_l k
    refine ⟨?_, ?_, ?_, ?_⟩
    · intro y0 y1 y2
      unfold laws_FnGjLastName.j0
      repeat' first
      | (with_reducible exact ih0 _ _ _)
      | (with_reducible exact ih1 _ _ _ _ _)
      | (with_reducible exact ih2 _ _ _ _ _ _ _)
      | (with_reducible exact ih3 _ _ _ _ _ _ _)
      | (with_reducible exact impl_GjLastName.mono _ _)
      | (with_reducible exact laws_gjRest.mono _ _)
      | (with_reducible exact laws_zzFits1.mono _ _)
      | (with_reducible exact spec_PathOf.mono _ _)
      | (with_reducible exact LeO.refl _)
      | (with_reducible exact LeO.none _)
      | (with_reducible refine LeO.ite ?_ ?_)
      | (with_reducible refine LeO.bind ?_ (fun _ => ?_))
      | exact ih0 _ _ _
      | exact ih1 _ _ _ _ _
      | exact ih2 _ _ _ _ _ _ _
      | exact ih3 _ _ _ _ _ _ _
      | exact impl_GjLastName.mono _ _
      | exact laws_gjRest.mono _ _
      | exact laws_zzFits1.mono _ _
      | exact spec_PathOf.mono _ _
      | exact LeO.none _
      | refine LeO.ite ?_ ?_
      | refine LeO.bind ?_ (fun _ => ?_)
    · intro y0 y1 y2 y3 y4
      unfold laws_FnGjLastName.l0
      repeat' first
      | (with_reducible exact ih0 _ _ _)
      | (with_reducible exact ih1 _ _ _ _ _)
      | (with_reducible exact ih2 _ _ _ _ _ _ _)
      | (with_reducible exact ih3 _ _ _ _ _ _ _)
      | (with_reducible exact impl_GjLastName.mono _ _)
      | (with_reducible exact laws_gjRest.mono _ _)
      | (with_reducible exact laws_zzFits1.mono _ _)
      | (with_reducible exact spec_PathOf.mono _ _)
      | (with_reducible exact LeO.refl _)
      | (with_reducible exact LeO.none _)
      | (with_reducible refine LeO.ite ?_ ?_)
      | (with_reducible refine LeO.bind ?_ (fun _ => ?_))
      | exact ih0 _ _ _
      | exact ih1 _ _ _ _ _
      | exact ih2 _ _ _ _ _ _ _
      | exact ih3 _ _ _ _ _ _ _
      | exact impl_GjLastName.mono _ _
      | exact laws_gjRest.mono _ _
      | exact laws_zzFits1.mono _ _
      | exact spec_PathOf.mono _ _
      | exact LeO.none _
      | refine LeO.ite ?_ ?_
      | refine LeO.bind ?_ (fun _ => ?_)
    · intro y0 y1 y2 y3 y4 y5 y6
      unfold laws_FnGjLastName.j2
      repeat' first
      | (with_reducible exact ih0 _ _ _)
      | (with_reducible exact ih1 _ _ _ _ _)
      | (with_reducible exact ih2 _ _ _ _ _ _ _)
      | (with_reducible exact ih3 _ _ _ _ _ _ _)
      | (with_reducible exact impl_GjLastName.mono _ _)
      | (with_reducible exact laws_gjRest.mono _ _)
      | (with_reducible exact laws_zzFits1.mono _ _)
      | (with_reducible exact spec_PathOf.mono _ _)
      | (with_reducible exact LeO.refl _)
      | (with_reducible exact LeO.none _)
      | (with_reducible refine LeO.ite ?_ ?_)
      | (with_reducible refine LeO.bind ?_ (fun _ => ?_))
      | exact ih0 _ _ _
      | exact ih1 _ _ _ _ _
      | exact ih2 _ _ _ _ _ _ _
      | exact ih3 _ _ _ _ _ _ _
      | exact impl_GjLastName.mono _ _
      | exact laws_gjRest.mono _ _
      | exact laws_zzFits1.mono _ _
      | exact spec_PathOf.mono _ _
      | exact LeO.none _
      | refine LeO.ite ?_ ?_
      | refine LeO.bind ?_ (fun _ => ?_)
    · intro y0 y1 y2 y3 y4 y5 y6
      unfold laws_FnGjLastName.j3
      repeat' first
      | (with_reducible exact ih0 _ _ _)
      | (with_reducible exact ih1 _ _ _ _ _)
      | (with_reducible exact ih2 _ _ _ _ _ _ _)
      | (with_reducible exact ih3 _ _ _ _ _ _ _)
      | (with_reducible exact impl_GjLastName.mono _ _)
      | (with_reducible exact laws_gjRest.mono _ _)
      | (with_reducible exact laws_zzFits1.mono _ _)
      | (with_reducible exact spec_PathOf.mono _ _)
      | (with_reducible exact LeO.refl _)
      | (with_reducible exact LeO.none _)
      | (with_reducible refine LeO.ite ?_ ?_)
      | (with_reducible refine LeO.bind ?_ (fun _ => ?_))
      | exact ih0 _ _ _
      | exact ih1 _ _ _ _ _
      | exact ih2 _ _ _ _ _ _ _
      | exact ih3 _ _ _ _ _ _ _
      | exact impl_GjLastName.mono _ _
      | exact laws_gjRest.mono _ _
      | exact laws_zzFits1.mono _ _
      | exact spec_PathOf.mono _ _
      | exact LeO.none _
      | refine LeO.ite ?_ ?_
      | refine LeO.bind ?_ (fun _ => ?_)
theorem laws_FnGjLastName.mono : ∀ a0 a1 k, LeO (laws_FnGjLastName.f k a0 a1) (laws_FnGjLastName.f (k + 1) a0 a1) := by
  intro a0 a1 k
  obtain ⟨ih0, ih1, ih2, ih3⟩ := laws_FnGjLastName.mono_l k
  unfold laws_FnGjLastName.f
  repeat' first
      | (with_reducible exact ih0 _ _ _)
      | (with_reducible exact ih1 _ _ _ _ _)
      | (with_reducible exact ih2 _ _ _ _ _ _ _)
      | (with_reducible exact ih3 _ _ _ _ _ _ _)
      | (with_reducible exact impl_GjLastName.mono _ _)
      | (with_reducible exact laws_gjRest.mono _ _)
      | (with_reducible exact laws_zzFits1.mono _ _)
      | (with_reducible exact spec_PathOf.mono _ _)
      | (with_reducible exact LeO.refl _)
      | (with_reducible exact LeO.none _)
      | (with_reducible refine LeO.ite ?_ ?_)
      | (with_reducible refine LeO.bind ?_ (fun _ => ?_))
      | exact ih0 _ _ _
      | exact ih1 _ _ _ _ _
      | exact ih2 _ _ _ _ _ _ _
      | exact ih3 _ _ _ _ _ _ _
      | exact impl_GjLastName.mono _ _
      | exact laws_gjRest.mono _ _
      | exact laws_zzFits1.mono _ _
      | exact spec_PathOf.mono _ _
      | exact LeO.none _
      | refine LeO.ite ?_ ?_
      | refine LeO.bind ?_ (fun _ => ?_)
def laws_FnGjLastName.T9 : Bool × List (List Nat × List Nat) := (true, [([], []), ([], []), ([1], [1]), ([2], [2]), ([0, 3], [0, 3]), ([4], [4]), ([5], [5]), ([5], [5]), ([6, 7, 5], [5, 6, 7]), ([8, 5], [5, 8]), ([5], [5]), ([5], [5]), ([10, 11, 5], [5, 10, 11]), ([12, 5], [5, 12]), ([13, 5], [5, 13]), ([14, 5], [5, 14]), ([9, 15, 5], [5, 9, 15]), ([16, 5], [5, 16]), ([5, 17], [5, 17])])
def laws_FnGjLastName.B9 : List Nat := [0, 0, 2, 6, 15, 31, 63, 63, 255, 511, 63, 63, 3135, 7231, 15423, 31807, 65535, 131071, 262143]
theorem laws_FnGjLastName.tab9 : rtab .any (opsOf Try.f3 9) = laws_FnGjLastName.T9 := by kernel_rfl
theorem laws_FnGjLastName.bits9 : waitsOk laws_FnGjLastName.T9.2 laws_FnGjLastName.B9 = true := by kernel_rfl
def laws_FnGjLastName.T17 : Bool × List (List Nat × List Nat) := (true, [([], []), ([0], [0]), ([], []), ([], []), ([3], [3]), ([4], [4]), ([2, 5], [2, 5]), ([6, 1], [6]), ([1, 7], [1, 7]), ([8, 7, 0, 1, 2, 3, 4, 5, 6, 7, 8], [8])])
def laws_FnGjLastName.B17 : List Nat := [0, 1, 0, 0, 8, 24, 60, 127, 255, 511]
theorem laws_FnGjLastName.tab17 : rtab .any (opsOf Try.f3 17) = laws_FnGjLastName.T17 := by kernel_rfl
theorem laws_FnGjLastName.bits17 : waitsOk laws_FnGjLastName.T17.2 laws_FnGjLastName.B17 = true := by kernel_rfl
set_option maxHeartbeats 8000000 in
set_option maxRecDepth 100000 in
theorem laws_FnGjLastName.calls (k : Nat) (A0 : Option Addr) (c0 : Nat) (l0 : List ByteArray) (a1 : Int) (r : Bool) (w : World) (hr0 : Kd.C Kd.string w A0 l0.length l0) (hc0 : l0.length ≤ c0) (h : laws_FnGjLastName.f k l0 a1 = some r) :
    Calls Try.prog 3 #[.slice A0 l0.length c0, .int .u64 a1] w fun e w' => e = .returned (.bool r) ∧ Below w.heap.size w w' := by
  have HR0 := Aside0.mk hr0
  have HC0 := Aside0.mk hc0
  clear hr0 hc0
  have HB := Aside0.mk (Below.refl w.heap.size w)
  have H : ((laws_zzFits1.f k l0).bind fun t369 => (if t369 = true then ((laws_gjRest.f k l0).bind fun t370 => (if t370 = true then (laws_FnGjLastName.j0 k l0 a1 (decide ((l0.length : Int) > 64))) else (laws_FnGjLastName.j0 k l0 a1 true))) else (some true))) = some r := h
  clear h
  replace H := Option.bind_eq_some_iff.mp H
  obtain ⟨t369, A30, H⟩ := H
  replace H : (if t369 = true then ((laws_gjRest.f k l0).bind fun t370 => (if t370 = true then (laws_FnGjLastName.j0 k l0 a1 (decide ((l0.length : Int) > 64))) else (laws_FnGjLastName.j0 k l0 a1 true))) else (some true)) = some r := H
  have A3 := Aside0.mk A30
  clear A30
  by_cases c4 : t369 = true
  · subst c4
    have H1 : ((laws_gjRest.f k l0).bind fun t370 => (if t370 = true then (laws_FnGjLastName.j0 k l0 a1 (decide ((l0.length : Int) > 64))) else (laws_FnGjLastName.j0 k l0 a1 true))) = some r := by rw [if_pos rfl] at H; exact H
    clear H
    have H := H1
    clear H1
    have HC5 := Aside0.mk H
    clear H
    go_enter Try.func3, Try.ntmps3
    go_upto_region 3 with (first | ((with_reducible refine gate_callee (f := 8) rfl ?_); refine goesL_ (some 8) rfl rfl Try.func8 (by kernel_rfl) rfl #[.slice A0 l0.length c0] rfl (by (try simp only [List.map_toArray, List.map_cons, List.map_nil]); first | done | rfl | (simp only [List.length_drop, List.length_take]; rfl)) ?_; (with_reducible refine (laws_zzFits1.calls k _ _ l0 true _ ?side1 ?side2 A3.out).mono ?_); (case side1 => repeat (first | exact HR0.out | (with_reducible refine Kd.C_alloc ?_ _) | (with_reducible refine Kd.C_drewN ?_ _) | (with_reducible refine Kd.C_drew ?_))); (case side2 => exact HC0.out); rintro e w' ⟨rfl, ⟨nd, rfl⟩⟩; refine ⟨_, rfl, ?_⟩))
    (try simp only [Act.put, List.setIfInBounds_toArray, List.set_cons_zero, List.set_cons_succ])
    go_cut [17] (fun v17 wc => ∃ (kq : Nat) (x17_4 : Bool), v17 = .bool x17_4 ∧ Aside0 (laws_FnGjLastName.j0 kq l0 a1 x17_4 = some r) ∧ Aside0 (kq ≤ k) ∧ Aside0 (Below w.heap.size w wc))
    case first =>
      have H := HC5.out
      clear HC5
      replace H := Option.bind_eq_some_iff.mp H
      obtain ⟨t370, A60, H⟩ := H
      replace H : (if t370 = true then (laws_FnGjLastName.j0 k l0 a1 (decide ((l0.length : Int) > 64))) else (laws_FnGjLastName.j0 k l0 a1 true)) = some r := H
      have A6 := Aside0.mk A60
      clear A60
      by_cases c7 : t370 = true
      · subst c7
        have H1 : (laws_FnGjLastName.j0 k l0 a1 (decide ((l0.length : Int) > 64))) = some r := by rw [if_pos rfl] at H; exact H
        clear H
        have H := H1
        clear H1
        have H' := Aside0.mk H
        clear H
        go_wp2_with (first | ((with_reducible refine gate_callee (f := 9) rfl ?_); refine goesL_ (some 11) rfl rfl Try.func9 (by kernel_rfl) rfl #[.slice A0 l0.length c0] rfl (by (try simp only [List.map_toArray, List.map_cons, List.map_nil]); first | done | rfl | (simp only [List.length_drop, List.length_take]; rfl)) ?_; (with_reducible refine (laws_gjRest.calls k _ _ l0 true _ ?side1 ?side2 A6.out).mono ?_); (case side1 => repeat (first | exact (Kd.C_below HR0.out HB.out) | (with_reducible refine Kd.C_alloc ?_ _) | (with_reducible refine Kd.C_drewN ?_ _) | (with_reducible refine Kd.C_drew ?_))); (case side2 => exact HC0.out); rintro e w' ⟨rfl, ⟨nd, rfl⟩⟩; refine ⟨_, rfl, ?_⟩))
        go_meet
        case rel => exact ⟨_, (decide ((l0.length : Int) > 64)), (by first | rfl | (simp; done) | (simp [*]; done)), H', ⟨by first | omega | exact Nat.le_refl _⟩, ⟨by repeat (first | (with_reducible first | exact HB.out | apply below_alloc | apply pw_below_drewN | apply below_drew1) | exact HB.out)⟩⟩
      · replace c7 := Bool.eq_false_iff.mpr c7
        subst c7
        have H1 : (laws_FnGjLastName.j0 k l0 a1 true) = some r := by rw [if_neg (show ¬ (false = true) by decide)] at H; exact H
        clear H
        have H := H1
        clear H1
        have H' := Aside0.mk H
        clear H
        go_wp2_with (first | ((with_reducible refine gate_callee (f := 9) rfl ?_); refine goesL_ (some 11) rfl rfl Try.func9 (by kernel_rfl) rfl #[.slice A0 l0.length c0] rfl (by (try simp only [List.map_toArray, List.map_cons, List.map_nil]); first | done | rfl | (simp only [List.length_drop, List.length_take]; rfl)) ?_; (with_reducible refine (laws_gjRest.calls k _ _ l0 false _ ?side1 ?side2 A6.out).mono ?_); (case side1 => repeat (first | exact (Kd.C_below HR0.out HB.out) | (with_reducible refine Kd.C_alloc ?_ _) | (with_reducible refine Kd.C_drewN ?_ _) | (with_reducible refine Kd.C_drew ?_))); (case side2 => exact HC0.out); rintro e w' ⟨rfl, ⟨nd, rfl⟩⟩; refine ⟨_, rfl, ?_⟩))
        go_meet
        case rel => exact ⟨_, (true), (by first | rfl | (simp; done) | (simp [*]; done)), H', ⟨by first | omega | exact Nat.le_refl _⟩, ⟨by repeat (first | (with_reducible first | exact HB.out | apply below_alloc | apply pw_below_drewN | apply below_drew1) | exact HB.out)⟩⟩
    case rest =>
      clear HC5
      try clear p2
      try clear c3
      try clear c4
      try clear c7
      obtain ⟨kq, x17_4, rfl, HA, HJ4, HB⟩ := hcut
      cases kq with
      | zero => exact absurd HA.out (by simp [laws_FnGjLastName.j0])
      | succ kj4 =>
        have H := HA.out
        clear HA
        simp only [laws_FnGjLastName.j0] at H
        by_cases c8 : x17_4 = true
        · subst c8
          have H1 : (some true) = some r := by rw [if_pos rfl] at H; exact H
          clear H
          have H := H1
          clear H1
          obtain rfl := Option.some.inj H
          go_wp2
          go_ret
          exact ⟨by first | rfl | (simp [errW_none, errW_some] <;> rfl) | (simp [*, errW_none, errW_some] <;> rfl), by repeat (first | (with_reducible first | exact HB.out | apply below_alloc | apply pw_below_drewN | apply below_drew1) | exact HB.out)⟩
        · replace c8 := Bool.eq_false_iff.mpr c8
          subst c8
          have H1 : (laws_FnGjLastName.l0 kj4 l0 a1 (⟨#[]⟩ : ByteArray) (l0.length : Int) 0) = some r := by rw [if_neg (show ¬ (false = true) by decide)] at H; exact H
          clear H
          have H := H1
          clear H1
          have H' := Aside0.mk H
          clear H
          go_wp2
          try simp only [Act.put, List.setIfInBounds_toArray, List.set_cons_succ, List.set_cons_zero]
          go_loopg [5, 20] kj4 (fun kq v5 v20 w' => ∃ (x5_2 : ByteArray) (x20_2 : Int), v5 = .string x5_2 ∧ v20 = .int .i64 x20_2 ∧ Aside0 (laws_FnGjLastName.l0 kq l0 a1 x5_2 (l0.length : Int) x20_2 = some r) ∧ Aside0 (kq ≤ kj4) ∧ Aside0 (Below w.heap.size w w'))
          case atStart => exact ⟨((⟨#[]⟩ : ByteArray)), (0), (by first | rfl | (simp; done) | (simp [*]; done)), (by first | rfl | (simp; done) | (simp [*]; done)), H', ⟨Nat.le_refl _⟩, ⟨by repeat (first | (with_reducible first | exact HB.out | apply below_alloc | apply pw_below_drewN | apply below_drew1) | exact HB.out)⟩⟩
          case round =>
            clear H'
            try clear p2
            try clear c3
            try clear c4
            try clear c7
            try clear c8
            try clear p2
            obtain ⟨x5_2, x20_2, rfl, rfl, HA, HK2, HB⟩ := hrel
            cases gk with
            | zero => exact absurd HA.out (by simp [laws_FnGjLastName.l0])
            | succ k2 =>
              have H := HA.out
              clear HA
              simp only [laws_FnGjLastName.l0] at H
              by_cases c9 : x20_2 < (l0.length : Int)
              · rw [if_pos c9] at H
                have c9b0 : decide (x20_2 < (l0.length : Int)) = true := decide_eq_true c9
                clear c9
                have HC10 := Aside0.mk H
                clear H
                go_upto_region 9 with (fail)
                go_cut [41] (fun v41 wc => ∃ (kq : Nat) (x41_9 : Bool), v41 = .bool x41_9 ∧ Aside0 (laws_FnGjLastName.j2 kq l0 a1 x5_2 x20_2 (l0.length : Int) x20_2 x41_9 = some r) ∧ Aside0 (kq ≤ k2) ∧ Aside0 (Below w.heap.size w wc))
                case first =>
                  have H := HC10.out
                  clear HC10
                  by_cases c11 : x20_2 < (wrap64 ((l0.length : Int) - 1))
                  · rw [if_pos c11] at H
                    have c11b0 : decide (x20_2 < (wrap64 ((l0.length : Int) - 1))) = true := decide_eq_true c11
                    clear c11
                    (first | rw [c11b0] | (simp only [i64_w, i32_w]; rw [c11b0]) | skip)
                    by_cases c12 : 0 ≤ x20_2
                    · rw [if_pos c12] at H
                      have c12b0 : decide (0 ≤ x20_2) = true := decide_eq_true c12
                      clear c12
                      by_cases c13 : x20_2 < (l0.length : Int)
                      · rw [if_pos c13] at H
                        have c13b0 : decide (x20_2 < (l0.length : Int)) = true := decide_eq_true c13
                        clear c13
                        obtain ⟨ji14, hji14⟩ : ∃ j_ : Int, (wrap64 (((rdOf ByteArray.empty l0 x20_2).size : Int) - 1)) = j_ := ⟨_, rfl⟩
                        replace H : (if 0 ≤ (ji14) then (if (ji14) < ((rdOf ByteArray.empty l0 x20_2).size : Int) then (laws_FnGjLastName.j2 k2 l0 a1 x5_2 x20_2 (l0.length : Int) x20_2 ((bt (rdOf ByteArray.empty l0 x20_2) (ji14)) == 92)) else (none)) else (none)) = some r := by first | (rw [hji14] at H; exact H) | (simp only [hji14] at H ⊢; exact H)
                        have hji14w : (IntKind.i64.wrap (((rdOf ByteArray.empty l0 x20_2).size : Int) - 1)) = ji14 := (i64_w _).trans hji14
                        by_cases c15 : 0 ≤ (ji14)
                        · rw [if_pos c15] at H
                          have c15b0 : decide (0 ≤ (ji14)) = true := decide_eq_true c15
                          clear c15
                          by_cases c16 : (ji14) < ((rdOf ByteArray.empty l0 x20_2).size : Int)
                          · rw [if_pos c16] at H
                            have c16b0 : decide ((ji14) < ((rdOf ByteArray.empty l0 x20_2).size : Int)) = true := decide_eq_true c16
                            clear c16
                            have H' := Aside0.mk H
                            clear H
                            try go_wp2
                            have n0_ := Aside0.mk (below_drew1 HB.out)
                            clear HB
                            have HB := n0_
                            clear n0_
                            have p374 : 0 ≤ (x20_2 : Int) := of_decide_eq_true (by first | (with_reducible assumption) | assumption)
                            have q374 : x20_2 < (l0.length : Int) := of_decide_eq_true (by first | (with_reducible assumption) | assumption)
                            obtain ⟨ad374, e374, hx374_0⟩ := Kd.at_string HR0.out x20_2 p374 q374
                            have hw374_0 := hx374_0
                            cases e374
                            replace hx374_0 := (HB.out.cell (World.block_lt_of_cell? w _ hx374_0)).trans hx374_0
                            replace p374 := eq_true p374
                            replace q374 := eq_true q374
                            have p375 : 0 ≤ (x20_2 : Int) := of_decide_eq_true (by first | (with_reducible assumption) | assumption)
                            have q375 : x20_2 < (l0.length : Int) := of_decide_eq_true (by first | (with_reducible assumption) | assumption)
                            obtain ⟨ad375, e375, hx375_0⟩ := Kd.at_string HR0.out x20_2 p375 q375
                            have hw375_0 := hx375_0
                            obtain rfl : ad374 = ad375 := (by injection e375)
                            replace hx375_0 := (HB.out.cell (World.block_lt_of_cell? w _ hx375_0)).trans hx375_0
                            replace p375 := eq_true p375
                            replace q375 := eq_true q375
                            have p17 : 0 ≤ ((ji14) : Int) := of_decide_eq_true (by first | (with_reducible assumption) | assumption)
                            have q17 : (ji14) < ((rdOf ByteArray.empty l0 x20_2).size : Int) := of_decide_eq_true (by first | (with_reducible assumption) | assumption)
                            have hx17 := bt_at (rdOf ByteArray.empty l0 x20_2) (ji14)
                            replace p17 := eq_true p17
                            replace q17 := eq_true q17
                            refine start_ (n := 19) (S := fun w' => w'.cell? (ad374.add (x20_2).toNat) = some (.string (rdOf ByteArray.empty l0 x20_2)) ∧ w'.cell? (ad374.add (x20_2).toNat) = some (.string (rdOf ByteArray.empty l0 x20_2))) (ds := []) #[false, false, false, false, false, false, false, false, false, false, false, false, false, false, false, false, false, false, false] (by kernel_rfl) rfl rfl ⟨((HB.out.cell (World.block_lt_of_cell? w _ hw374_0)).trans hw374_0), ((HB.out.cell (World.block_lt_of_cell? w _ hw375_0)).trans hw375_0)⟩ (fun hHeld => ?_); refine with_tabW laws_FnGjLastName.tab9 laws_FnGjLastName.bits9 (fun HT_ HW_ => ?_)
                            generalize wr.drew = w18 at HB hx374_0 hx375_0 hHeld ⊢
                            refine pure_ (i := 0) (N := some 23) (v := ?_) (a' := ?_) #[true, false, false, false, false, false, false, false, false, false, false, false, false, false, false, false, false, false, false] rfl rfl (any_of HT_.out (by kernel_rfl)) (fun _ _ _ h => h) (Or.inl ⟨by rfl, ?_⟩) ?_ ?_
                            rotate_left
                            · intro w'
                              go_simp
                              with_reducible rfl
                            rotate_left
                            · simp only [Act.put, List.setIfInBounds_toArray, List.set_cons_zero, List.set_cons_succ, i64_w, i32_w]
                              rfl
                            refine pure_ (i := 1) (N := some 24) (v := ?_) (a' := ?_) #[true, true, false, false, false, false, false, false, false, false, false, false, false, false, false, false, false, false, false] rfl rfl (any_of HT_.out (by kernel_rfl)) (fun _ _ _ h => h) (Or.inl ⟨by rfl, ?_⟩) ?_ ?_
                            rotate_left
                            · intro w'
                              go_simp
                              with_reducible rfl
                            rotate_left
                            · simp only [Act.put, List.setIfInBounds_toArray, List.set_cons_zero, List.set_cons_succ, i64_w, i32_w]
                              rfl
                            refine pure_ (i := 2) (N := some 25) (v := ?_) (a' := ?_) #[true, true, true, false, false, false, false, false, false, false, false, false, false, false, false, false, false, false, false] rfl rfl (any_of HT_.out (by kernel_rfl)) (fun _ _ _ h => h) (Or.inl ⟨by rfl, ?_⟩) ?_ ?_
                            rotate_left
                            · intro w'
                              go_simp
                              with_reducible rfl
                            rotate_left
                            · simp only [Act.put, List.setIfInBounds_toArray, List.set_cons_zero, List.set_cons_succ, i64_w, i32_w]
                              rfl
                            refine pure_ (i := 3) (N := some 26) (v := ?_) (a' := ?_) #[true, true, true, true, false, false, false, false, false, false, false, false, false, false, false, false, false, false, false] rfl rfl (any_of HT_.out (by kernel_rfl)) (fun _ _ _ h => h) (Or.inl ⟨by rfl, ?_⟩) ?_ ?_
                            rotate_left
                            · intro w'
                              go_simp
                              with_reducible rfl
                            rotate_left
                            · simp only [Act.put, List.setIfInBounds_toArray, List.set_cons_zero, List.set_cons_succ, i64_w, i32_w]
                              rfl
                            refine pure_ (i := 4) (N := some 27) (v := ?_) (a' := ?_) #[true, true, true, true, true, false, false, false, false, false, false, false, false, false, false, false, false, false, false] rfl rfl (any_of HT_.out (by kernel_rfl)) (fun _ _ _ h => h) (Or.inl ⟨by rfl, ?_⟩) ?_ ?_
                            rotate_left
                            · intro w'
                              go_simp
                              with_reducible rfl
                            rotate_left
                            · simp only [Act.put, List.setIfInBounds_toArray, List.set_cons_zero, List.set_cons_succ, i64_w, i32_w]
                              rfl
                            refine pure_ (i := 5) (N := some 28) (v := ?_) (a' := ?_) #[true, true, true, true, true, true, false, false, false, false, false, false, false, false, false, false, false, false, false] rfl rfl (any_of HT_.out (by kernel_rfl)) (fun _ _ _ h => h) (Or.inl ⟨by rfl, ?_⟩) ?_ ?_
                            rotate_left
                            · intro w'
                              go_simp
                              with_reducible rfl
                            rotate_left
                            · simp only [Act.put, List.setIfInBounds_toArray, List.set_cons_zero, List.set_cons_succ, i64_w, i32_w]
                              rfl
                            refine pure_ (i := 6) (N := some 29) (v := ?_) (a' := ?_) #[true, true, true, true, true, true, true, false, false, false, false, false, false, false, false, false, false, false, false] rfl rfl (any_of HT_.out (by kernel_rfl)) (fun _ _ _ h => h) (Or.inl ⟨by rfl, ?_⟩) ?_ ?_
                            rotate_left
                            · intro w'
                              go_simp
                              with_reducible rfl
                            rotate_left
                            · simp only [Act.put, List.setIfInBounds_toArray, List.set_cons_zero, List.set_cons_succ, i64_w, i32_w]
                              rfl
                            refine pure_ (i := 7) (N := some 30) (v := ?_) (a' := ?_) #[true, true, true, true, true, true, true, true, false, false, false, false, false, false, false, false, false, false, false] rfl rfl (any_of HT_.out (by kernel_rfl)) (fun _ _ _ h => h) (Or.inl ⟨by rfl, ?_⟩) ?_ ?_
                            rotate_left
                            · intro w'
                              go_simp
                              with_reducible rfl
                            rotate_left
                            · simp only [Act.put, List.setIfInBounds_toArray, List.set_cons_zero, List.set_cons_succ, i64_w, i32_w]
                              rfl
                            refine pure_ (i := 8) (N := some 31) (v := ?_) (a' := ?_) #[true, true, true, true, true, true, true, true, true, false, false, false, false, false, false, false, false, false, false] rfl rfl (any_of HT_.out (by kernel_rfl)) (fun _ _ _ h => h) (Or.inl ⟨by rfl, ?_⟩) ?_ ?_
                            rotate_left
                            · intro w'
                              go_simp
                              with_reducible rfl
                            rotate_left
                            · simp only [Act.put, List.setIfInBounds_toArray, List.set_cons_zero, List.set_cons_succ, i64_w, i32_w]
                              rfl
                            refine pure_ (i := 10) (N := some 33) (v := ?_) (a' := ?_) #[true, true, true, true, true, true, true, true, true, false, true, false, false, false, false, false, false, false, false] rfl rfl (any_of HT_.out (by kernel_rfl)) (fun _ _ _ h => h) (Or.inl ⟨by rfl, ?_⟩) ?_ ?_
                            rotate_left
                            · intro w'
                              go_simp
                              with_reducible rfl
                            rotate_left
                            · simp only [Act.put, List.setIfInBounds_toArray, List.set_cons_zero, List.set_cons_succ, i64_w, i32_w]
                              rfl
                            refine pure_ (i := 11) (N := some 34) (v := ?_) (a' := ?_) #[true, true, true, true, true, true, true, true, true, false, true, true, false, false, false, false, false, false, false] rfl rfl (any_of HT_.out (by kernel_rfl)) (fun _ _ _ h => h) (Or.inl ⟨by rfl, ?_⟩) ?_ ?_
                            rotate_left
                            · intro w'
                              go_simp
                              with_reducible rfl
                            rotate_left
                            · simp only [Act.put, List.setIfInBounds_toArray, List.set_cons_zero, List.set_cons_succ, i64_w, i32_w]
                              rfl
                            refine pure_ (i := 12) (N := some 35) (v := ?_) (a' := ?_) #[true, true, true, true, true, true, true, true, true, false, true, true, true, false, false, false, false, false, false] rfl rfl (any_of HT_.out (by kernel_rfl)) (fun _ _ _ h => h) (Or.inl ⟨by rfl, ?_⟩) ?_ ?_
                            rotate_left
                            · intro w'
                              go_simp
                              with_reducible rfl
                            rotate_left
                            · simp only [Act.put, List.setIfInBounds_toArray, List.set_cons_zero, List.set_cons_succ, i64_w, i32_w]
                              rfl
                            refine take_ (i := 9) (N := some 32) (v := ?_) (a' := ?_) #[true, true, true, true, true, true, true, true, true, true, true, true, true, false, false, false, false, false, false] rfl rfl (take_ofW HT_.out HW_.out (by kernel_rfl)) (fun _ _ _ h => h) (Or.inl ⟨by rfl, ?_⟩) hHeld ?_ ?_
                            rotate_left
                            · rintro w' ⟨s0, s1⟩
                              go_simp
                              with_reducible rfl
                            rotate_left
                            · simp only [Act.put, List.setIfInBounds_toArray, List.set_cons_zero, List.set_cons_succ, i64_w, i32_w]
                              rfl
                            refine take_ (i := 13) (N := some 36) (v := ?_) (a' := ?_) #[true, true, true, true, true, true, true, true, true, true, true, true, true, true, false, false, false, false, false] rfl rfl (take_ofW HT_.out HW_.out (by kernel_rfl)) (fun _ _ _ h => h) (Or.inl ⟨by rfl, ?_⟩) hHeld ?_ ?_
                            rotate_left
                            · rintro w' ⟨s0, s1⟩
                              go_simp
                              with_reducible rfl
                            rotate_left
                            · simp only [Act.put, List.setIfInBounds_toArray, List.set_cons_zero, List.set_cons_succ, i64_w, i32_w]
                              rfl
                            refine pure_ (i := 14) (N := some 37) (v := ?_) (a' := ?_) #[true, true, true, true, true, true, true, true, true, true, true, true, true, true, true, false, false, false, false] rfl rfl (any_of HT_.out (by kernel_rfl)) (fun _ _ _ h => h) (Or.inl ⟨by rfl, ?_⟩) ?_ ?_
                            rotate_left
                            · intro w'
                              go_simp
                              with_reducible rfl
                            rotate_left
                            · simp only [Act.put, List.setIfInBounds_toArray, List.set_cons_zero, List.set_cons_succ, i64_w, i32_w]
                              rfl
                            refine pure_ (i := 15) (N := some 38) (v := ?_) (a' := ?_) #[true, true, true, true, true, true, true, true, true, true, true, true, true, true, true, true, false, false, false] rfl rfl (any_of HT_.out (by kernel_rfl)) (fun _ _ _ h => h) (Or.inl ⟨by rfl, ?_⟩) ?_ ?_
                            rotate_left
                            · intro w'
                              go_simp
                              with_reducible rfl
                            rotate_left
                            · simp only [Act.put, List.setIfInBounds_toArray, List.set_cons_zero, List.set_cons_succ, i64_w, i32_w]
                              rfl
                            refine take_ (i := 16) (N := some 39) (v := ?_) (a' := ?_) #[true, true, true, true, true, true, true, true, true, true, true, true, true, true, true, true, true, false, false] rfl rfl (take_ofW HT_.out HW_.out (by kernel_rfl)) (fun _ _ _ h => h) (Or.inl ⟨by rfl, ?_⟩) hHeld ?_ ?_
                            rotate_left
                            · rintro w' ⟨s0, s1⟩
                              go_simp
                              with_reducible rfl
                            rotate_left
                            · simp only [Act.put, List.setIfInBounds_toArray, List.set_cons_zero, List.set_cons_succ, i64_w, i32_w]
                              rfl
                            refine pure_ (i := 17) (N := some 40) (v := ?_) (a' := ?_) #[true, true, true, true, true, true, true, true, true, true, true, true, true, true, true, true, true, true, false] rfl rfl (any_of HT_.out (by kernel_rfl)) (fun _ _ _ h => h) (Or.inl ⟨by rfl, ?_⟩) ?_ ?_
                            rotate_left
                            · intro w'
                              go_simp
                              with_reducible rfl
                            rotate_left
                            · simp only [Act.put, List.setIfInBounds_toArray, List.set_cons_zero, List.set_cons_succ, i64_w, i32_w]
                              rfl
                            refine pure_ (i := 18) (N := some 41) (v := ?_) (a' := ?_) #[true, true, true, true, true, true, true, true, true, true, true, true, true, true, true, true, true, true, true] rfl rfl (any_of HT_.out (by kernel_rfl)) (fun _ _ _ h => h) (Or.inl ⟨by rfl, ?_⟩) ?_ ?_
                            rotate_left
                            · intro w'
                              go_simp
                              with_reducible rfl
                            rotate_left
                            · simp only [Act.put, List.setIfInBounds_toArray, List.set_cons_zero, List.set_cons_succ, i64_w, i32_w]
                              rfl
                            refine done_ (done_of HT_.out (by kernel_rfl)) ?_
                            try go_wp2
                            go_meet
                            case rel => exact ⟨_, (((bt (rdOf ByteArray.empty l0 x20_2) (ji14)) == 92)), (by first | rfl | (simp; done) | (simp only [← hji14] <;> (first | rfl | (simp; done))) | (simp [*]; done)), H', ⟨by have := HJ4.out; have := HK2.out; first | omega | exact Nat.le_refl _⟩, ⟨by repeat (first | (with_reducible first | exact HB.out | apply below_alloc | apply pw_below_drewN | apply below_drew1) | exact HB.out)⟩⟩
                          · rw [if_neg c16] at H
                            exact absurd H (by simp)
                        · rw [if_neg c15] at H
                          exact absurd H (by simp)
                      · rw [if_neg c13] at H
                        exact absurd H (by simp)
                    · rw [if_neg c12] at H
                      exact absurd H (by simp)
                  · rw [if_neg c11] at H
                    have c11b0 : decide (x20_2 < (wrap64 ((l0.length : Int) - 1))) = false := decide_eq_false c11
                    clear c11
                    (first | rw [c11b0] | (simp only [i64_w, i32_w]; rw [c11b0]) | skip)
                    have H' := Aside0.mk H
                    clear H
                    try go_wp2
                    have n0_ := Aside0.mk (below_drew1 HB.out)
                    clear HB
                    have HB := n0_
                    clear n0_
                    refine start_ (n := 19) (S := fun w' => True) (ds := []) #[false, false, false, false, false, false, false, false, false, false, false, false, false, false, false, false, false, false, false] (by kernel_rfl) rfl rfl trivial (fun hHeld => ?_); refine with_tabW laws_FnGjLastName.tab9 laws_FnGjLastName.bits9 (fun HT_ HW_ => ?_)
                    generalize wr.drew = w19 at HB hHeld ⊢
                    refine pure_ (i := 0) (N := some 23) (v := ?_) (a' := ?_) #[true, false, false, false, false, false, false, false, false, false, false, false, false, false, false, false, false, false, false] rfl rfl (any_of HT_.out (by kernel_rfl)) (fun _ _ _ h => h) (Or.inl ⟨by rfl, ?_⟩) ?_ ?_
                    rotate_left
                    · intro w'
                      go_simp
                      with_reducible rfl
                    rotate_left
                    · simp only [Act.put, List.setIfInBounds_toArray, List.set_cons_zero, List.set_cons_succ, i64_w, i32_w]
                      rfl
                    refine pure_ (i := 1) (N := some 24) (v := ?_) (a' := ?_) #[true, true, false, false, false, false, false, false, false, false, false, false, false, false, false, false, false, false, false] rfl rfl (any_of HT_.out (by kernel_rfl)) (fun _ _ _ h => h) (Or.inl ⟨by rfl, ?_⟩) ?_ ?_
                    rotate_left
                    · intro w'
                      go_simp
                      with_reducible rfl
                    rotate_left
                    · simp only [Act.put, List.setIfInBounds_toArray, List.set_cons_zero, List.set_cons_succ, i64_w, i32_w]
                      rfl
                    refine pure_ (i := 2) (N := some 25) (v := ?_) (a' := ?_) #[true, true, true, false, false, false, false, false, false, false, false, false, false, false, false, false, false, false, false] rfl rfl (any_of HT_.out (by kernel_rfl)) (fun _ _ _ h => h) (Or.inl ⟨by rfl, ?_⟩) ?_ ?_
                    rotate_left
                    · intro w'
                      go_simp
                      with_reducible rfl
                    rotate_left
                    · simp only [Act.put, List.setIfInBounds_toArray, List.set_cons_zero, List.set_cons_succ, i64_w, i32_w]
                      rfl
                    refine pure_ (i := 3) (N := some 26) (v := ?_) (a' := ?_) #[true, true, true, true, false, false, false, false, false, false, false, false, false, false, false, false, false, false, false] rfl rfl (any_of HT_.out (by kernel_rfl)) (fun _ _ _ h => h) (Or.inl ⟨by rfl, ?_⟩) ?_ ?_
                    rotate_left
                    · intro w'
                      go_simp
                      with_reducible rfl
                    rotate_left
                    · simp only [Act.put, List.setIfInBounds_toArray, List.set_cons_zero, List.set_cons_succ, i64_w, i32_w]
                      rfl
                    refine pure_ (i := 4) (N := some 27) (v := ?_) (a' := ?_) #[true, true, true, true, true, false, false, false, false, false, false, false, false, false, false, false, false, false, false] rfl rfl (any_of HT_.out (by kernel_rfl)) (fun _ _ _ h => h) (Or.inl ⟨by rfl, ?_⟩) ?_ ?_
                    rotate_left
                    · intro w'
                      go_simp
                      with_reducible rfl
                    rotate_left
                    · simp only [Act.put, List.setIfInBounds_toArray, List.set_cons_zero, List.set_cons_succ, i64_w, i32_w]
                      rfl
                    refine pure_ (i := 5) (N := some 28) (v := ?_) (a' := ?_) #[true, true, true, true, true, true, false, false, false, false, false, false, false, false, false, false, false, false, false] rfl rfl (any_of HT_.out (by kernel_rfl)) (fun _ _ _ h => h) (Or.inl ⟨by rfl, ?_⟩) ?_ ?_
                    rotate_left
                    · intro w'
                      go_simp
                      with_reducible rfl
                    rotate_left
                    · simp only [Act.put, List.setIfInBounds_toArray, List.set_cons_zero, List.set_cons_succ, i64_w, i32_w]
                      rfl
                    refine pure_ (i := 6) (N := some 29) (v := undef) (a' := ?_) #[true, true, true, true, true, true, true, false, false, false, false, false, false, false, false, false, false, false, false] rfl rfl (any_of HT_.out (by kernel_rfl)) (fun _ _ _ h => h) (Or.inr ⟨by rfl, rfl⟩) ?_ ?_
                    rotate_left
                    · simp only [Act.put, List.setIfInBounds_toArray, List.set_cons_zero, List.set_cons_succ, i64_w, i32_w]
                      rfl
                    refine pure_ (i := 7) (N := some 30) (v := undef) (a' := ?_) #[true, true, true, true, true, true, true, true, false, false, false, false, false, false, false, false, false, false, false] rfl rfl (any_of HT_.out (by kernel_rfl)) (fun _ _ _ h => h) (Or.inr ⟨by rfl, rfl⟩) ?_ ?_
                    rotate_left
                    · simp only [Act.put, List.setIfInBounds_toArray, List.set_cons_zero, List.set_cons_succ, i64_w, i32_w]
                      rfl
                    refine pure_ (i := 8) (N := some 31) (v := undef) (a' := ?_) #[true, true, true, true, true, true, true, true, true, false, false, false, false, false, false, false, false, false, false] rfl rfl (any_of HT_.out (by kernel_rfl)) (fun _ _ _ h => h) (Or.inr ⟨by rfl, rfl⟩) ?_ ?_
                    rotate_left
                    · simp only [Act.put, List.setIfInBounds_toArray, List.set_cons_zero, List.set_cons_succ, i64_w, i32_w]
                      rfl
                    refine pure_ (i := 9) (N := some 32) (v := undef) (a' := ?_) #[true, true, true, true, true, true, true, true, true, true, false, false, false, false, false, false, false, false, false] rfl rfl (any_of HT_.out (by kernel_rfl)) (fun _ _ _ h => h) (Or.inr ⟨by rfl, rfl⟩) ?_ ?_
                    rotate_left
                    · simp only [Act.put, List.setIfInBounds_toArray, List.set_cons_zero, List.set_cons_succ, i64_w, i32_w]
                      rfl
                    refine pure_ (i := 10) (N := some 33) (v := undef) (a' := ?_) #[true, true, true, true, true, true, true, true, true, true, true, false, false, false, false, false, false, false, false] rfl rfl (any_of HT_.out (by kernel_rfl)) (fun _ _ _ h => h) (Or.inr ⟨by rfl, rfl⟩) ?_ ?_
                    rotate_left
                    · simp only [Act.put, List.setIfInBounds_toArray, List.set_cons_zero, List.set_cons_succ, i64_w, i32_w]
                      rfl
                    refine pure_ (i := 11) (N := some 34) (v := undef) (a' := ?_) #[true, true, true, true, true, true, true, true, true, true, true, true, false, false, false, false, false, false, false] rfl rfl (any_of HT_.out (by kernel_rfl)) (fun _ _ _ h => h) (Or.inr ⟨by rfl, rfl⟩) ?_ ?_
                    rotate_left
                    · simp only [Act.put, List.setIfInBounds_toArray, List.set_cons_zero, List.set_cons_succ, i64_w, i32_w]
                      rfl
                    refine pure_ (i := 12) (N := some 35) (v := undef) (a' := ?_) #[true, true, true, true, true, true, true, true, true, true, true, true, true, false, false, false, false, false, false] rfl rfl (any_of HT_.out (by kernel_rfl)) (fun _ _ _ h => h) (Or.inr ⟨by rfl, rfl⟩) ?_ ?_
                    rotate_left
                    · simp only [Act.put, List.setIfInBounds_toArray, List.set_cons_zero, List.set_cons_succ, i64_w, i32_w]
                      rfl
                    refine pure_ (i := 13) (N := some 36) (v := undef) (a' := ?_) #[true, true, true, true, true, true, true, true, true, true, true, true, true, true, false, false, false, false, false] rfl rfl (any_of HT_.out (by kernel_rfl)) (fun _ _ _ h => h) (Or.inr ⟨by rfl, rfl⟩) ?_ ?_
                    rotate_left
                    · simp only [Act.put, List.setIfInBounds_toArray, List.set_cons_zero, List.set_cons_succ, i64_w, i32_w]
                      rfl
                    refine pure_ (i := 14) (N := some 37) (v := undef) (a' := ?_) #[true, true, true, true, true, true, true, true, true, true, true, true, true, true, true, false, false, false, false] rfl rfl (any_of HT_.out (by kernel_rfl)) (fun _ _ _ h => h) (Or.inr ⟨by rfl, rfl⟩) ?_ ?_
                    rotate_left
                    · simp only [Act.put, List.setIfInBounds_toArray, List.set_cons_zero, List.set_cons_succ, i64_w, i32_w]
                      rfl
                    refine pure_ (i := 15) (N := some 38) (v := undef) (a' := ?_) #[true, true, true, true, true, true, true, true, true, true, true, true, true, true, true, true, false, false, false] rfl rfl (any_of HT_.out (by kernel_rfl)) (fun _ _ _ h => h) (Or.inr ⟨by rfl, rfl⟩) ?_ ?_
                    rotate_left
                    · simp only [Act.put, List.setIfInBounds_toArray, List.set_cons_zero, List.set_cons_succ, i64_w, i32_w]
                      rfl
                    refine pure_ (i := 16) (N := some 39) (v := undef) (a' := ?_) #[true, true, true, true, true, true, true, true, true, true, true, true, true, true, true, true, true, false, false] rfl rfl (any_of HT_.out (by kernel_rfl)) (fun _ _ _ h => h) (Or.inr ⟨by rfl, rfl⟩) ?_ ?_
                    rotate_left
                    · simp only [Act.put, List.setIfInBounds_toArray, List.set_cons_zero, List.set_cons_succ, i64_w, i32_w]
                      rfl
                    refine pure_ (i := 17) (N := some 40) (v := undef) (a' := ?_) #[true, true, true, true, true, true, true, true, true, true, true, true, true, true, true, true, true, true, false] rfl rfl (any_of HT_.out (by kernel_rfl)) (fun _ _ _ h => h) (Or.inr ⟨by rfl, rfl⟩) ?_ ?_
                    rotate_left
                    · simp only [Act.put, List.setIfInBounds_toArray, List.set_cons_zero, List.set_cons_succ, i64_w, i32_w]
                      rfl
                    refine pure_ (i := 18) (N := some 41) (v := ?_) (a' := ?_) #[true, true, true, true, true, true, true, true, true, true, true, true, true, true, true, true, true, true, true] rfl rfl (any_of HT_.out (by kernel_rfl)) (fun _ _ _ h => h) (Or.inl ⟨by rfl, ?_⟩) ?_ ?_
                    rotate_left
                    · intro w'
                      go_simp
                      with_reducible rfl
                    rotate_left
                    · simp only [Act.put, List.setIfInBounds_toArray, List.set_cons_zero, List.set_cons_succ, i64_w, i32_w]
                      rfl
                    refine done_ (done_of HT_.out (by kernel_rfl)) ?_
                    try go_wp2
                    go_meet
                    case rel => exact ⟨_, (false), (by first | rfl | (simp; done) | (simp [*]; done)), H', ⟨by have := HJ4.out; have := HK2.out; first | omega | exact Nat.le_refl _⟩, ⟨by repeat (first | (with_reducible first | exact HB.out | apply below_alloc | apply pw_below_drewN | apply below_drew1) | exact HB.out)⟩⟩
                case rest =>
                  clear HC10
                  try clear c1
                  try clear p1
                  try clear q1
                  try clear hx1
                  try clear p2
                  try clear c3
                  try clear p3
                  try clear q3
                  try clear hx3
                  try clear c4
                  try clear p6
                  try clear c7
                  try clear c8
                  try clear c9
                  try clear c9b0
                  try clear c11
                  try clear c11b0
                  try clear c12
                  try clear c12b0
                  try clear c13
                  try clear c13b0
                  try clear c15
                  try clear c15b0
                  try clear c16
                  try clear c16b0
                  try clear p17
                  try clear q17
                  try clear hx17
                  try clear hx374_0
                  try clear hx375_0
                  try clear p17
                  try clear p2
                  try clear p374
                  try clear p375
                  try clear q17
                  try clear q374
                  try clear q375
                  obtain ⟨kq, x41_9, rfl, HA, HJ9, HB⟩ := hcut
                  cases kq with
                  | zero => exact absurd HA.out (by simp [laws_FnGjLastName.j2])
                  | succ kj9 =>
                    have H := HA.out
                    clear HA
                    simp only [laws_FnGjLastName.j2] at H
                    by_cases c20 : x41_9 = true
                    · subst c20
                      have H1 : (some true) = some r := by rw [if_pos rfl] at H; exact H
                      clear H
                      have H := H1
                      clear H1
                      obtain rfl := Option.some.inj H
                      go_wp2
                      go_ret
                      exact ⟨by first | rfl | (simp [errW_none, errW_some] <;> rfl) | (simp [*, errW_none, errW_some] <;> rfl), by repeat (first | (with_reducible first | exact HB.out | apply below_alloc | apply pw_below_drewN | apply below_drew1) | exact HB.out)⟩
                    · replace c20 := Bool.eq_false_iff.mpr c20
                      subst c20
                      have H1 : (if x20_2 > 0 then (if 0 ≤ (IntKind.u64.wrap (x20_2)) then (laws_FnGjLastName.j3 kj9 l0 a1 x5_2 x20_2 (l0.length : Int) x20_2 ((Go.bits .and .u64 (shr .u64 a1 (IntKind.u64.wrap (x20_2))) 1) == 1)) else (none)) else (laws_FnGjLastName.j3 kj9 l0 a1 x5_2 x20_2 (l0.length : Int) x20_2 false)) = some r := by rw [if_neg (show ¬ (false = true) by decide)] at H; exact H
                      clear H
                      have H := H1
                      clear H1
                      have HC21 := Aside0.mk H
                      clear H
                      go_upto_region 11 with (fail)
                      go_cut [42] (fun v42 wc => ∃ (kq : Nat) (x42_20 : Bool), v42 = .bool x42_20 ∧ Aside0 (laws_FnGjLastName.j3 kq l0 a1 x5_2 x20_2 (l0.length : Int) x20_2 x42_20 = some r) ∧ Aside0 (kq ≤ kj9) ∧ Aside0 (Below w.heap.size w wc))
                      case first =>
                        have H := HC21.out
                        clear HC21
                        by_cases c22 : x20_2 > 0
                        · rw [if_pos c22] at H
                          have c22b0 : decide (0 < x20_2) = true := decide_eq_true c22
                          clear c22
                          (first | rw [c22b0] | (simp only [i64_w, i32_w]; rw [c22b0]) | skip)
                          obtain ⟨ji23, hji23⟩ : ∃ j_ : Int, (IntKind.u64.wrap (x20_2)) = j_ := ⟨_, rfl⟩
                          replace H : (if 0 ≤ (ji23) then (laws_FnGjLastName.j3 kj9 l0 a1 x5_2 x20_2 (l0.length : Int) x20_2 ((Go.bits .and .u64 (shr .u64 a1 (ji23)) 1) == 1)) else (none)) = some r := by first | (rw [hji23] at H; exact H) | (simp only [hji23] at H ⊢; exact H)
                          by_cases c24 : 0 ≤ (ji23)
                          · rw [if_pos c24] at H
                            have c24b0 := eq_true c24
                            have c24b1 : decide (0 ≤ (ji23)) = true := decide_eq_true c24
                            clear c24
                            obtain ⟨ji25, hji25⟩ : ∃ j_ : Int, (shr .u64 a1 (ji23)) = j_ := ⟨_, rfl⟩
                            replace H : (laws_FnGjLastName.j3 kj9 l0 a1 x5_2 x20_2 (l0.length : Int) x20_2 ((Go.bits .and .u64 (ji25) 1) == 1)) = some r := by first | (rw [hji25] at H; exact H) | (simp only [hji25] at H ⊢; exact H)
                            have hji25_ : (a1 / 2 ^ min (ji23).toNat 64) = ji25 := hji25
                            have hji25z : (ji23) ≤ 64 → (a1 / 2 ^ (ji23).toNat) = ji25 := shr_small hji25
                            have H' := Aside0.mk H
                            clear H
                            go_wp2
                            go_meet
                            case rel => exact ⟨_, (((Go.bits .and .u64 (ji25) 1) == 1)), (by first | rfl | (simp; done) | (simp only [← hji25] <;> (first | rfl | (simp; done))) | (simp [*]; done)), H', ⟨by have := HJ4.out; have := HK2.out; have := HJ9.out; first | omega | exact Nat.le_refl _⟩, ⟨by repeat (first | (with_reducible first | exact HB.out | apply below_alloc | apply pw_below_drewN | apply below_drew1) | exact HB.out)⟩⟩
                          · rw [if_neg c24] at H
                            exact absurd H (by simp)
                        · rw [if_neg c22] at H
                          have c22b0 : decide (0 < x20_2) = false := decide_eq_false c22
                          clear c22
                          (first | rw [c22b0] | (simp only [i64_w, i32_w]; rw [c22b0]) | skip)
                          have H' := Aside0.mk H
                          clear H
                          go_wp2
                          go_meet
                          case rel => exact ⟨_, (false), (by first | rfl | (simp; done) | (simp [*]; done)), H', ⟨by have := HJ4.out; have := HK2.out; have := HJ9.out; first | omega | exact Nat.le_refl _⟩, ⟨by repeat (first | (with_reducible first | exact HB.out | apply below_alloc | apply pw_below_drewN | apply below_drew1) | exact HB.out)⟩⟩
                      case rest =>
                        clear HC21
                        try clear c1
                        try clear p1
                        try clear q1
                        try clear hx1
                        try clear c2
                        try clear p2
                        try clear c3
                        try clear p3
                        try clear q3
                        try clear hx3
                        try clear c4
                        try clear p6
                        try clear c7
                        try clear c8
                        try clear c9
                        try clear c9b0
                        try clear c11
                        try clear c11b0
                        try clear c12
                        try clear c12b0
                        try clear c13
                        try clear c13b0
                        try clear c15
                        try clear c15b0
                        try clear c16
                        try clear c16b0
                        try clear p17
                        try clear q17
                        try clear hx17
                        try clear c20
                        try clear c22
                        try clear c22b0
                        try clear c24
                        try clear c24b0
                        try clear c24b1
                        try clear hx374_0
                        try clear hx375_0
                        try clear p1
                        try clear p17
                        try clear p2
                        try clear p3
                        try clear p374
                        try clear p375
                        try clear p6
                        try clear q1
                        try clear q17
                        try clear q3
                        try clear q374
                        try clear q375
                        obtain ⟨kq, x42_20, rfl, HA, HJ20, HB⟩ := hcut
                        cases kq with
                        | zero => exact absurd HA.out (by simp [laws_FnGjLastName.j3])
                        | succ kj20 =>
                          have H := HA.out
                          clear HA
                          simp only [laws_FnGjLastName.j3] at H
                          by_cases c26 : x42_20 = true
                          · subst c26
                            have H1 : (if x5_2.size + 1 ≤ 9223372036854775807 then (if 0 ≤ x20_2 then (if x20_2 ≤ (wrap64 (x20_2 + 1)) then (if (wrap64 (x20_2 + 1)) ≤ (l0.length : Int) then ((spec_PathOf.f kj20 ((l0.take ((wrap64 (x20_2 + 1)) : Int).toNat).drop (x20_2 : Int).toNat)).bind fun t377 => (if x5_2.size + 1 + t377.size ≤ 9223372036854775807 then (laws_FnGjLastName.l0 kj20 l0 a1 ((x5_2 ++ (⟨#[124]⟩ : ByteArray)) ++ t377) (l0.length : Int) (wrap64 (x20_2 + 1))) else (none))) else (none)) else (none)) else (none)) else (none)) = some r := by rw [if_pos rfl] at H; exact H
                            clear H
                            have H := H1
                            clear H1
                            by_cases c27 : x5_2.size + 1 ≤ 9223372036854775807
                            · rw [if_pos c27] at H
                              have c27b0 := eq_true c27
                              have c27b1 : decide (x5_2.size + 1 ≤ 9223372036854775807) = true := decide_eq_true c27
                              try have c27b2 : (9223372036854775807 < x5_2.size + 1) = False := eq_false (Nat.not_lt.2 c27)
                              by_cases c28 : 0 ≤ x20_2
                              · rw [if_pos c28] at H
                                have c28b0 := eq_true c28
                                have c28b1 : decide (0 ≤ x20_2) = true := decide_eq_true c28
                                clear c28
                                by_cases c29 : x20_2 ≤ (wrap64 (x20_2 + 1))
                                · rw [if_pos c29] at H
                                  have c29b0 := eq_true c29
                                  have c29b1 : decide (x20_2 ≤ (wrap64 (x20_2 + 1))) = true := decide_eq_true c29
                                  by_cases c30 : (wrap64 (x20_2 + 1)) ≤ (l0.length : Int)
                                  · rw [if_pos c30] at H
                                    have c30b0 := eq_true c30
                                    have c30b1 : decide ((wrap64 (x20_2 + 1)) ≤ (l0.length : Int)) = true := decide_eq_true c30
                                    replace H := Option.bind_eq_some_iff.mp H
                                    obtain ⟨t377, A310, H⟩ := H
                                    replace H : (if x5_2.size + 1 + t377.size ≤ 9223372036854775807 then (laws_FnGjLastName.l0 kj20 l0 a1 ((x5_2 ++ (⟨#[124]⟩ : ByteArray)) ++ t377) (l0.length : Int) (wrap64 (x20_2 + 1))) else (none)) = some r := H
                                    have A31 := Aside0.mk A310
                                    clear A310
                                    by_cases c32 : x5_2.size + 1 + t377.size ≤ 9223372036854775807
                                    · rw [if_pos c32] at H
                                      have c32b0 := eq_true c32
                                      have c32b1 : decide (x5_2.size + 1 + t377.size ≤ 9223372036854775807) = true := decide_eq_true c32
                                      try have c32b2 : (9223372036854775807 < x5_2.size + 1 + t377.size) = False := eq_false (Nat.not_lt.2 c32)
                                      have H' := Aside0.mk H
                                      clear H
                                      obtain ⟨i033, hi033, _, hsz33, _⟩ := info_parts info9
                                      obtain ⟨A33, hcut33, hA33, hC33⟩ := print_mid_of (P := Try.prog) Value.string (⟨#[]⟩ : ByteArray) 22 9 .i64 .i64 Try.underlying22 hi033 hsz33 A0 c0 l0 x20_2 (wrap64 (x20_2 + 1)) (of_decide_eq_true (by first | (with_reducible assumption) | assumption)) (by first | omega | exact of_decide_eq_true (by first | (with_reducible assumption) | assumption)) (of_decide_eq_true (by first | (with_reducible assumption) | assumption)) HC0.out
                                      have HR376 := Aside0.mk (Kd.C_of_reads (h1 := fun _ => rfl) (hA33 _ (Kd.reads_of_C HR0.out)))
                                      have HC376 := Aside0.mk hC33
                                      clear hA33 hC33 hi033 hsz33
                                      go_wp2_with (first | ((with_reducible refine gate_callee (f := 10) rfl ?_); refine goesL_ (some 66) rfl rfl Try.func10 (by kernel_rfl) rfl #[.slice A33 ((l0.take ((wrap64 (x20_2 + 1)) : Int).toNat).drop (x20_2 : Int).toNat).length (c0 - x20_2.toNat)] rfl (by (try simp only [List.map_toArray, List.map_cons, List.map_nil]); first | done | (rw [show ((l0.take ((wrap64 (x20_2 + 1)) : Int).toNat).drop (x20_2 : Int).toNat).length = ((wrap64 (x20_2 + 1)).toNat - x20_2.toNat) from (by rw [List.length_drop, List.length_take]; have h_ : ((wrap64 (x20_2 + 1)) : Int) ≤ (l0.length : Int) := of_decide_eq_true (by first | (with_reducible assumption) | assumption); omega)] <;> rfl) | rfl | (simp only [List.length_drop, List.length_take]; rfl)) ?_; (with_reducible refine (spec_PathOf.calls kj20 _ _ ((l0.take ((wrap64 (x20_2 + 1)) : Int).toNat).drop (x20_2 : Int).toNat) t377 _ ?side1 ?side2 A31.out).mono ?_); (case side1 => repeat (first | exact (Kd.C_below HR376.out HB.out) | (with_reducible refine Kd.C_alloc ?_ _) | (with_reducible refine Kd.C_drewN ?_ _) | (with_reducible refine Kd.C_drew ?_))); (case side2 => exact HC376.out); rintro e w34 ⟨rfl, hb⟩; refine ⟨_, rfl, ?_⟩; have n0_ := Aside0.mk (below_step (by repeat (first | (with_reducible first | exact HB.out | apply below_alloc | apply pw_below_drewN | apply below_drew1) | exact HB.out)) hb); clear HB; have HB := n0_; clear n0_; (try clear hb); (try clear hb2); (try clear hk); (try clear hi)))
                                      go_roundg kj20
                                      case measure => have := HJ4.out; have := HK2.out; have := HJ9.out; have := HJ20.out; omega
                                      case rel => exact ⟨((x5_2 ++ (⟨#[124]⟩ : ByteArray)) ++ t377), (wrap64 (x20_2 + 1)), (by first | rfl | (simp; done) | (simp [*]; done)), (by first | rfl | (simp; done) | (simp [*]; done)), H', ⟨by have := HJ4.out; have := HK2.out; have := HJ9.out; have := HJ20.out; omega⟩, ⟨by repeat (first | (with_reducible first | exact HB.out | apply below_alloc | apply pw_below_drewN | apply below_drew1) | exact HB.out)⟩⟩
                                    · rw [if_neg c32] at H
                                      exact absurd H (by simp)
                                  · rw [if_neg c30] at H
                                    exact absurd H (by simp)
                                · rw [if_neg c29] at H
                                  exact absurd H (by simp)
                              · rw [if_neg c28] at H
                                exact absurd H (by simp)
                            · rw [if_neg c27] at H
                              exact absurd H (by simp)
                          · replace c26 := Bool.eq_false_iff.mpr c26
                            subst c26
                            have H1 : (if x20_2 > 0 then (if x5_2.size + 1 ≤ 9223372036854775807 then (if 0 ≤ x20_2 then (if x20_2 ≤ (wrap64 (x20_2 + 1)) then (if (wrap64 (x20_2 + 1)) ≤ (l0.length : Int) then ((spec_PathOf.f kj20 ((l0.take ((wrap64 (x20_2 + 1)) : Int).toNat).drop (x20_2 : Int).toNat)).bind fun t379 => (if x5_2.size + 1 + t379.size ≤ 9223372036854775807 then (laws_FnGjLastName.l0 kj20 l0 a1 ((x5_2 ++ (⟨#[46]⟩ : ByteArray)) ++ t379) (l0.length : Int) (wrap64 (x20_2 + 1))) else (none))) else (none)) else (none)) else (none)) else (none)) else (if 0 ≤ x20_2 then (if x20_2 ≤ (wrap64 (x20_2 + 1)) then (if (wrap64 (x20_2 + 1)) ≤ (l0.length : Int) then ((spec_PathOf.f kj20 ((l0.take ((wrap64 (x20_2 + 1)) : Int).toNat).drop (x20_2 : Int).toNat)).bind fun t381 => (if x5_2.size + t381.size ≤ 9223372036854775807 then (laws_FnGjLastName.l0 kj20 l0 a1 (x5_2 ++ t381) (l0.length : Int) (wrap64 (x20_2 + 1))) else (none))) else (none)) else (none)) else (none))) = some r := by rw [if_neg (show ¬ (false = true) by decide)] at H; exact H
                            clear H
                            have H := H1
                            clear H1
                            by_cases c35 : x20_2 > 0
                            · rw [if_pos c35] at H
                              have c35b0 : decide (0 < x20_2) = true := decide_eq_true c35
                              clear c35
                              by_cases c36 : x5_2.size + 1 ≤ 9223372036854775807
                              · rw [if_pos c36] at H
                                have c36b0 := eq_true c36
                                have c36b1 : decide (x5_2.size + 1 ≤ 9223372036854775807) = true := decide_eq_true c36
                                try have c36b2 : (9223372036854775807 < x5_2.size + 1) = False := eq_false (Nat.not_lt.2 c36)
                                by_cases c37 : 0 ≤ x20_2
                                · rw [if_pos c37] at H
                                  have c37b0 := eq_true c37
                                  have c37b1 : decide (0 ≤ x20_2) = true := decide_eq_true c37
                                  clear c37
                                  by_cases c38 : x20_2 ≤ (wrap64 (x20_2 + 1))
                                  · rw [if_pos c38] at H
                                    have c38b0 := eq_true c38
                                    have c38b1 : decide (x20_2 ≤ (wrap64 (x20_2 + 1))) = true := decide_eq_true c38
                                    by_cases c39 : (wrap64 (x20_2 + 1)) ≤ (l0.length : Int)
                                    · rw [if_pos c39] at H
                                      have c39b0 := eq_true c39
                                      have c39b1 : decide ((wrap64 (x20_2 + 1)) ≤ (l0.length : Int)) = true := decide_eq_true c39
                                      replace H := Option.bind_eq_some_iff.mp H
                                      obtain ⟨t379, A400, H⟩ := H
                                      replace H : (if x5_2.size + 1 + t379.size ≤ 9223372036854775807 then (laws_FnGjLastName.l0 kj20 l0 a1 ((x5_2 ++ (⟨#[46]⟩ : ByteArray)) ++ t379) (l0.length : Int) (wrap64 (x20_2 + 1))) else (none)) = some r := H
                                      have A40 := Aside0.mk A400
                                      clear A400
                                      by_cases c41 : x5_2.size + 1 + t379.size ≤ 9223372036854775807
                                      · rw [if_pos c41] at H
                                        have c41b0 := eq_true c41
                                        have c41b1 : decide (x5_2.size + 1 + t379.size ≤ 9223372036854775807) = true := decide_eq_true c41
                                        try have c41b2 : (9223372036854775807 < x5_2.size + 1 + t379.size) = False := eq_false (Nat.not_lt.2 c41)
                                        have H' := Aside0.mk H
                                        clear H
                                        obtain ⟨i042, hi042, _, hsz42, _⟩ := info_parts info9
                                        obtain ⟨A42, hcut42, hA42, hC42⟩ := print_mid_of (P := Try.prog) Value.string (⟨#[]⟩ : ByteArray) 22 9 .i64 .i64 Try.underlying22 hi042 hsz42 A0 c0 l0 x20_2 (wrap64 (x20_2 + 1)) (of_decide_eq_true (by first | (with_reducible assumption) | assumption)) (by first | omega | exact of_decide_eq_true (by first | (with_reducible assumption) | assumption)) (of_decide_eq_true (by first | (with_reducible assumption) | assumption)) HC0.out
                                        have HR378 := Aside0.mk (Kd.C_of_reads (h1 := fun _ => rfl) (hA42 _ (Kd.reads_of_C HR0.out)))
                                        have HC378 := Aside0.mk hC42
                                        clear hA42 hC42 hi042 hsz42
                                        go_wp2_with (first | ((with_reducible refine gate_callee (f := 10) rfl ?_); refine goesL_ (some 66) rfl rfl Try.func10 (by kernel_rfl) rfl #[.slice A42 ((l0.take ((wrap64 (x20_2 + 1)) : Int).toNat).drop (x20_2 : Int).toNat).length (c0 - x20_2.toNat)] rfl (by (try simp only [List.map_toArray, List.map_cons, List.map_nil]); first | done | (rw [show ((l0.take ((wrap64 (x20_2 + 1)) : Int).toNat).drop (x20_2 : Int).toNat).length = ((wrap64 (x20_2 + 1)).toNat - x20_2.toNat) from (by rw [List.length_drop, List.length_take]; have h_ : ((wrap64 (x20_2 + 1)) : Int) ≤ (l0.length : Int) := of_decide_eq_true (by first | (with_reducible assumption) | assumption); omega)] <;> rfl) | rfl | (simp only [List.length_drop, List.length_take]; rfl)) ?_; (with_reducible refine (spec_PathOf.calls kj20 _ _ ((l0.take ((wrap64 (x20_2 + 1)) : Int).toNat).drop (x20_2 : Int).toNat) t379 _ ?side1 ?side2 A40.out).mono ?_); (case side1 => repeat (first | exact (Kd.C_below HR378.out HB.out) | (with_reducible refine Kd.C_alloc ?_ _) | (with_reducible refine Kd.C_drewN ?_ _) | (with_reducible refine Kd.C_drew ?_))); (case side2 => exact HC378.out); rintro e w43 ⟨rfl, hb⟩; refine ⟨_, rfl, ?_⟩; have n0_ := Aside0.mk (below_step (by repeat (first | (with_reducible first | exact HB.out | apply below_alloc | apply pw_below_drewN | apply below_drew1) | exact HB.out)) hb); clear HB; have HB := n0_; clear n0_; (try clear hb); (try clear hb2); (try clear hk); (try clear hi)))
                                        go_roundg kj20
                                        case measure => have := HJ4.out; have := HK2.out; have := HJ9.out; have := HJ20.out; omega
                                        case rel => exact ⟨((x5_2 ++ (⟨#[46]⟩ : ByteArray)) ++ t379), (wrap64 (x20_2 + 1)), (by first | rfl | (simp; done) | (simp [*]; done)), (by first | rfl | (simp; done) | (simp [*]; done)), H', ⟨by have := HJ4.out; have := HK2.out; have := HJ9.out; have := HJ20.out; omega⟩, ⟨by repeat (first | (with_reducible first | exact HB.out | apply below_alloc | apply pw_below_drewN | apply below_drew1) | exact HB.out)⟩⟩
                                      · rw [if_neg c41] at H
                                        exact absurd H (by simp)
                                    · rw [if_neg c39] at H
                                      exact absurd H (by simp)
                                  · rw [if_neg c38] at H
                                    exact absurd H (by simp)
                                · rw [if_neg c37] at H
                                  exact absurd H (by simp)
                              · rw [if_neg c36] at H
                                exact absurd H (by simp)
                            · rw [if_neg c35] at H
                              have c35b0 : decide (0 < x20_2) = false := decide_eq_false c35
                              clear c35
                              by_cases c44 : 0 ≤ x20_2
                              · rw [if_pos c44] at H
                                have c44b0 := eq_true c44
                                have c44b1 : decide (0 ≤ x20_2) = true := decide_eq_true c44
                                clear c44
                                by_cases c45 : x20_2 ≤ (wrap64 (x20_2 + 1))
                                · rw [if_pos c45] at H
                                  have c45b0 := eq_true c45
                                  have c45b1 : decide (x20_2 ≤ (wrap64 (x20_2 + 1))) = true := decide_eq_true c45
                                  by_cases c46 : (wrap64 (x20_2 + 1)) ≤ (l0.length : Int)
                                  · rw [if_pos c46] at H
                                    have c46b0 := eq_true c46
                                    have c46b1 : decide ((wrap64 (x20_2 + 1)) ≤ (l0.length : Int)) = true := decide_eq_true c46
                                    replace H := Option.bind_eq_some_iff.mp H
                                    obtain ⟨t381, A470, H⟩ := H
                                    replace H : (if x5_2.size + t381.size ≤ 9223372036854775807 then (laws_FnGjLastName.l0 kj20 l0 a1 (x5_2 ++ t381) (l0.length : Int) (wrap64 (x20_2 + 1))) else (none)) = some r := H
                                    have A47 := Aside0.mk A470
                                    clear A470
                                    by_cases c48 : x5_2.size + t381.size ≤ 9223372036854775807
                                    · rw [if_pos c48] at H
                                      have c48b0 := eq_true c48
                                      have c48b1 : decide (x5_2.size + t381.size ≤ 9223372036854775807) = true := decide_eq_true c48
                                      try have c48b2 : (9223372036854775807 < x5_2.size + t381.size) = False := eq_false (Nat.not_lt.2 c48)
                                      have H' := Aside0.mk H
                                      clear H
                                      obtain ⟨i049, hi049, _, hsz49, _⟩ := info_parts info9
                                      obtain ⟨A49, hcut49, hA49, hC49⟩ := print_mid_of (P := Try.prog) Value.string (⟨#[]⟩ : ByteArray) 22 9 .i64 .i64 Try.underlying22 hi049 hsz49 A0 c0 l0 x20_2 (wrap64 (x20_2 + 1)) (of_decide_eq_true (by first | (with_reducible assumption) | assumption)) (by first | omega | exact of_decide_eq_true (by first | (with_reducible assumption) | assumption)) (of_decide_eq_true (by first | (with_reducible assumption) | assumption)) HC0.out
                                      have HR380 := Aside0.mk (Kd.C_of_reads (h1 := fun _ => rfl) (hA49 _ (Kd.reads_of_C HR0.out)))
                                      have HC380 := Aside0.mk hC49
                                      clear hA49 hC49 hi049 hsz49
                                      go_wp2_with (first | ((with_reducible refine gate_callee (f := 10) rfl ?_); refine goesL_ (some 66) rfl rfl Try.func10 (by kernel_rfl) rfl #[.slice A49 ((l0.take ((wrap64 (x20_2 + 1)) : Int).toNat).drop (x20_2 : Int).toNat).length (c0 - x20_2.toNat)] rfl (by (try simp only [List.map_toArray, List.map_cons, List.map_nil]); first | done | (rw [show ((l0.take ((wrap64 (x20_2 + 1)) : Int).toNat).drop (x20_2 : Int).toNat).length = ((wrap64 (x20_2 + 1)).toNat - x20_2.toNat) from (by rw [List.length_drop, List.length_take]; have h_ : ((wrap64 (x20_2 + 1)) : Int) ≤ (l0.length : Int) := of_decide_eq_true (by first | (with_reducible assumption) | assumption); omega)] <;> rfl) | rfl | (simp only [List.length_drop, List.length_take]; rfl)) ?_; (with_reducible refine (spec_PathOf.calls kj20 _ _ ((l0.take ((wrap64 (x20_2 + 1)) : Int).toNat).drop (x20_2 : Int).toNat) t381 _ ?side1 ?side2 A47.out).mono ?_); (case side1 => repeat (first | exact (Kd.C_below HR380.out HB.out) | (with_reducible refine Kd.C_alloc ?_ _) | (with_reducible refine Kd.C_drewN ?_ _) | (with_reducible refine Kd.C_drew ?_))); (case side2 => exact HC380.out); rintro e w50 ⟨rfl, hb⟩; refine ⟨_, rfl, ?_⟩; have n0_ := Aside0.mk (below_step (by repeat (first | (with_reducible first | exact HB.out | apply below_alloc | apply pw_below_drewN | apply below_drew1) | exact HB.out)) hb); clear HB; have HB := n0_; clear n0_; (try clear hb); (try clear hb2); (try clear hk); (try clear hi)))
                                      go_roundg kj20
                                      case measure => have := HJ4.out; have := HK2.out; have := HJ9.out; have := HJ20.out; omega
                                      case rel => exact ⟨(x5_2 ++ t381), (wrap64 (x20_2 + 1)), (by first | rfl | (simp; done) | (simp [*]; done)), (by first | rfl | (simp; done) | (simp [*]; done)), H', ⟨by have := HJ4.out; have := HK2.out; have := HJ9.out; have := HJ20.out; omega⟩, ⟨by repeat (first | (with_reducible first | exact HB.out | apply below_alloc | apply pw_below_drewN | apply below_drew1) | exact HB.out)⟩⟩
                                    · rw [if_neg c48] at H
                                      exact absurd H (by simp)
                                  · rw [if_neg c46] at H
                                    exact absurd H (by simp)
                                · rw [if_neg c45] at H
                                  exact absurd H (by simp)
                              · rw [if_neg c44] at H
                                exact absurd H (by simp)
              · rw [if_neg c9] at H
                have c9b0 : decide (x20_2 < (l0.length : Int)) = false := decide_eq_false c9
                clear c9
                replace H := Option.bind_eq_some_iff.mp H
                obtain ⟨t371, A510, H⟩ := H
                replace H : (if 0 ≤ (wrap64 ((l0.length : Int) - 1)) then (if (wrap64 ((l0.length : Int) - 1)) ≤ (l0.length : Int) then ((spec_PathOf.f k2 (l0.drop ((wrap64 ((l0.length : Int) - 1)) : Int).toNat)).bind fun t373 => (some (t371.toList == t373.toList))) else (none)) else (none)) = some r := H
                have A51 := Aside0.mk A510
                clear A510
                obtain ⟨ji52, hji52⟩ : ∃ j_ : Int, (wrap64 ((l0.length : Int) - 1)) = j_ := ⟨_, rfl⟩
                replace H : (if 0 ≤ (ji52) then (if (ji52) ≤ (l0.length : Int) then ((spec_PathOf.f k2 (l0.drop ((ji52) : Int).toNat)).bind fun t373 => (some (t371.toList == t373.toList))) else (none)) else (none)) = some r := by first | (rw [hji52] at H; exact H) | (simp only [hji52] at H ⊢; exact H)
                (try rw [hji52] at A51)
                have hji52w : (IntKind.i64.wrap ((l0.length : Int) - 1)) = ji52 := (i64_w _).trans hji52
                by_cases c53 : 0 ≤ (ji52)
                · rw [if_pos c53] at H
                  have c53b0 := eq_true c53
                  have c53b1 : decide (0 ≤ (ji52)) = true := decide_eq_true c53
                  clear c53
                  by_cases c54 : (ji52) ≤ (l0.length : Int)
                  · rw [if_pos c54] at H
                    have c54b0 := eq_true c54
                    have c54b1 : decide ((ji52) ≤ (l0.length : Int)) = true := decide_eq_true c54
                    clear c54
                    replace H := Option.bind_eq_some_iff.mp H
                    obtain ⟨t373, A550, H⟩ := H
                    replace H : (some (t371.toList == t373.toList)) = some r := H
                    have A55 := Aside0.mk A550
                    clear A550
                    obtain rfl := Option.some.inj H
                    try go_wp2
                    have n0_ := Aside0.mk (below_drew1 HB.out)
                    clear HB
                    have HB := n0_
                    clear n0_
                    obtain ⟨i057, hi057, _, hsz57, _⟩ := info_parts info9
                    obtain ⟨A57, hcut57, hA57, hC57⟩ := print_drop_of (P := Try.prog) Value.string (⟨#[]⟩ : ByteArray) 22 9 .i64 Try.underlying22 hi057 hsz57 A0 c0 l0 (ji52) (of_decide_eq_true (by first | (with_reducible assumption) | assumption)) (of_decide_eq_true (by first | (with_reducible assumption) | assumption)) HC0.out
                    have HR372 := Aside0.mk (Kd.C_of_reads (h1 := fun _ => rfl) (hA57 _ (Kd.reads_of_C HR0.out)))
                    have HC372 := Aside0.mk hC57
                    clear hA57 hC57 hi057 hsz57
                    refine start_ (n := 10) (S := fun w' => True) (ds := []) #[false, false, false, false, false, false, false, false, false, false] (by kernel_rfl) rfl rfl trivial (fun hHeld => ?_); refine with_tabW laws_FnGjLastName.tab17 laws_FnGjLastName.bits17 (fun HT_ HW_ => ?_)
                    generalize wr.drew = w56 at HB HR372 hHeld ⊢
                    refine pure_ (i := 0) (N := some 69) (v := ?_) (a' := ?_) #[true, false, false, false, false, false, false, false, false, false] rfl rfl (any_of HT_.out (by kernel_rfl)) (fun _ _ _ h => h) (Or.inl ⟨by rfl, ?_⟩) ?_ ?_
                    rotate_left
                    · intro w'
                      go_simp
                      with_reducible rfl
                    rotate_left
                    · simp only [Act.put, List.setIfInBounds_toArray, List.set_cons_zero, List.set_cons_succ, i64_w, i32_w]
                      rfl
                    refine pure_ (i := 2) (N := some 71) (v := ?_) (a' := ?_) #[true, false, true, false, false, false, false, false, false, false] rfl rfl (any_of HT_.out (by kernel_rfl)) (fun _ _ _ h => h) (Or.inl ⟨by rfl, ?_⟩) ?_ ?_
                    rotate_left
                    · intro w'
                      go_simp
                      with_reducible rfl
                    rotate_left
                    · simp only [Act.put, List.setIfInBounds_toArray, List.set_cons_zero, List.set_cons_succ, i64_w, i32_w]
                      rfl
                    refine pure_ (i := 3) (N := some 72) (v := ?_) (a' := ?_) #[true, false, true, true, false, false, false, false, false, false] rfl rfl (any_of HT_.out (by kernel_rfl)) (fun _ _ _ h => h) (Or.inl ⟨by rfl, ?_⟩) ?_ ?_
                    rotate_left
                    · intro w'
                      go_simp
                      with_reducible rfl
                    rotate_left
                    · simp only [Act.put, List.setIfInBounds_toArray, List.set_cons_zero, List.set_cons_succ, i64_w, i32_w]
                      rfl
                    refine pure_ (i := 4) (N := some 73) (v := ?_) (a' := ?_) #[true, false, true, true, true, false, false, false, false, false] rfl rfl (any_of HT_.out (by kernel_rfl)) (fun _ _ _ h => h) (Or.inl ⟨by rfl, ?_⟩) ?_ ?_
                    rotate_left
                    · intro w'
                      go_simp
                      with_reducible rfl
                    rotate_left
                    · simp only [Act.put, List.setIfInBounds_toArray, List.set_cons_zero, List.set_cons_succ, i64_w, i32_w]
                      rfl
                    refine pure_ (i := 5) (N := some 74) (v := ?_) (a' := ?_) #[true, false, true, true, true, true, false, false, false, false] rfl rfl (any_of HT_.out (by kernel_rfl)) (fun _ _ _ h => h) (Or.inl ⟨by rfl, ?_⟩) ?_ ?_
                    rotate_left
                    · intro w'
                      go_simp
                      with_reducible rfl
                    rotate_left
                    · simp only [Act.put, List.setIfInBounds_toArray, List.set_cons_zero, List.set_cons_succ, i64_w, i32_w]
                      rfl
                    refine pure_ (i := 6) (N := some 75) (v := ?_) (a' := ?_) #[true, false, true, true, true, true, true, false, false, false] rfl rfl (any_of HT_.out (by kernel_rfl)) (fun _ _ _ h => h) (Or.inl ⟨by rfl, ?_⟩) ?_ ?_
                    rotate_left
                    · intro w'
                      go_simp
                      with_reducible rfl
                    rotate_left
                    · simp only [Act.put, List.setIfInBounds_toArray, List.set_cons_zero, List.set_cons_succ, i64_w, i32_w]
                      rfl
                    refine one_ (i := 1) (N := some 70) #[true, true, true, true, true, true, true, false, false, false] rfl rfl (one_of HT_.out (by kernel_rfl)) (by decide) (fun K hK => ?_)
                    refine goes_ Try.func11 (by kernel_rfl) rfl #[.string x5_2] (by rfl) rfl rfl (by (try simp only [List.map_toArray, List.map_cons, List.map_nil]); first | done | rfl | (simp only [List.length_drop, List.length_take]; rfl)) ?_
                    with_reducible refine (impl_GjLastName.calls k2 x5_2 t371 _ A51.out).mono ?_
                    rintro e w' ⟨rfl, ⟨nd, rfl⟩⟩
                    refine ⟨_, rfl, ?_⟩
                    refine hK.out _ _ trivial (fun hHeld => ?_)
                    clear hK K
                    refine norm_ (a' := ?_) ?_ ?_
                    rotate_left
                    · show Act.put _ (some 70) _ = _
                      simp only [Act.put, List.setIfInBounds_toArray, List.set_cons_zero, List.set_cons_succ, i64_w, i32_w]
                      rfl
                    refine one_ (i := 7) (N := some 76) #[true, true, true, true, true, true, true, true, false, false] rfl rfl (one_of HT_.out (by kernel_rfl)) (by decide) (fun K hK => ?_)
                    refine goes_ Try.func10 (by kernel_rfl) rfl #[.slice A57 (l0.drop ((ji52) : Int).toNat).length (c0 - (ji52).toNat)] (by rfl) rfl rfl (by (try simp only [List.map_toArray, List.map_cons, List.map_nil]); first | done | (rw [show (l0.drop ((ji52) : Int).toNat).length = (l0.length - (ji52).toNat) from List.length_drop] <;> rfl) | (simp only [hji52]; rfl) | rfl | (simp only [List.length_drop, List.length_take]; rfl)) ?_
                    with_reducible refine (spec_PathOf.calls k2 _ _ (l0.drop ((ji52) : Int).toNat) t373 _ ?side1 ?side2 A55.out).mono ?_
                    (case side1 => repeat (first | exact (Kd.C_below HR372.out (by repeat (first | (with_reducible first | exact HB.out | apply below_alloc | apply pw_below_drewN | apply below_drew1) | exact HB.out))) | (with_reducible refine Kd.C_alloc ?_ _) | (with_reducible refine Kd.C_drewN ?_ _) | (with_reducible refine Kd.C_drew ?_)))
                    (case side2 => exact HC372.out)
                    rintro e w58 ⟨rfl, hb⟩
                    refine ⟨_, rfl, ?_⟩
                    have n0_ := Aside0.mk (below_step (by repeat (first | (with_reducible first | exact HB.out | apply below_alloc | apply pw_below_drewN | apply below_drew1) | exact HB.out)) hb)
                    clear HB
                    have HB := n0_
                    clear n0_
                    (try clear hb)
                    (try clear hb2)
                    (try clear hk)
                    (try clear hi)
                    refine hK.out _ _ trivial (fun hHeld => ?_)
                    clear hK K
                    refine norm_ (a' := ?_) ?_ ?_
                    rotate_left
                    · show Act.put _ (some 76) _ = _
                      simp only [Act.put, List.setIfInBounds_toArray, List.set_cons_zero, List.set_cons_succ, i64_w, i32_w]
                      rfl
                    refine pure_ (i := 8) (N := some 77) (v := ?_) (a' := ?_) #[true, true, true, true, true, true, true, true, true, false] rfl rfl (any_of HT_.out (by kernel_rfl)) (fun _ _ _ h => h) (Or.inl ⟨by rfl, ?_⟩) ?_ ?_
                    rotate_left
                    · intro w'
                      go_simp
                      with_reducible rfl
                    rotate_left
                    · simp only [Act.put, List.setIfInBounds_toArray, List.set_cons_zero, List.set_cons_succ, i64_w, i32_w]
                      rfl
                    refine pure_ (i := 9) (N := some 4) (v := ?_) (a' := ?_) #[true, true, true, true, true, true, true, true, true, true] rfl rfl (any_of HT_.out (by kernel_rfl)) (fun _ _ _ h => h) (Or.inl ⟨by rfl, ?_⟩) ?_ ?_
                    rotate_left
                    · intro w'
                      go_simp
                      with_reducible rfl
                    rotate_left
                    · simp only [Act.put, List.setIfInBounds_toArray, List.set_cons_zero, List.set_cons_succ, i64_w, i32_w]
                      rfl
                    refine done_ (done_of HT_.out (by kernel_rfl)) ?_
                    try go_wp2
                    go_ret
                    exact ⟨by first | rfl | (simp [errW_none, errW_some] <;> rfl) | (simp only [← hji52]; first | rfl | (simp [errW_none, errW_some] <;> rfl)) | (simp [*, errW_none, errW_some] <;> rfl), by repeat (first | (with_reducible first | exact HB.out | apply below_alloc | apply pw_below_drewN | apply below_drew1) | exact HB.out)⟩
                  · rw [if_neg c54] at H
                    exact absurd H (by simp)
                · rw [if_neg c53] at H
                  exact absurd H (by simp)
  · replace c4 := Bool.eq_false_iff.mpr c4
    subst c4
    have H1 : (some true) = some r := by rw [if_neg (show ¬ (false = true) by decide)] at H; exact H
    clear H
    have H := H1
    clear H1
    obtain rfl := Option.some.inj H
    go_enter Try.func3, Try.ntmps3
    go_wp2_with (first | ((with_reducible refine gate_callee (f := 8) rfl ?_); refine goesL_ (some 8) rfl rfl Try.func8 (by kernel_rfl) rfl #[.slice A0 l0.length c0] rfl (by (try simp only [List.map_toArray, List.map_cons, List.map_nil]); first | done | rfl | (simp only [List.length_drop, List.length_take]; rfl)) ?_; (with_reducible refine (laws_zzFits1.calls k _ _ l0 false _ ?side1 ?side2 A3.out).mono ?_); (case side1 => repeat (first | exact HR0.out | (with_reducible refine Kd.C_alloc ?_ _) | (with_reducible refine Kd.C_drewN ?_ _) | (with_reducible refine Kd.C_drew ?_))); (case side2 => exact HC0.out); rintro e w' ⟨rfl, ⟨nd, rfl⟩⟩; refine ⟨_, rfl, ?_⟩))
    go_ret
    exact ⟨by first | rfl | (simp [errW_none, errW_some] <;> rfl) | (simp [*, errW_none, errW_some] <;> rfl), by repeat (first | (with_reducible first | exact HB.out | apply below_alloc | apply pw_below_drewN | apply below_drew1) | exact HB.out)⟩

end Go.Proofs.Ytdndddembndnhaa.PA
