-- Written by a program of this session out of the translation (a changed copy of the kit's print); Lean checks it.
import Derived.Test.YtfpbbnllaogclaaPAx0
import Derived.Test.YtfpbbnllaogclaaPAx13
namespace Go.Proofs.Ytfpbbnllaogclaa.PA
open Go.RowKit Go.Proofs.YtfpbbnllaogclaaW.PrintWords Go.Proofs.YtfpbbnllaogclaaW.PrintLast Go.Proofs.YtfpbbnllaogclaaW.PrintMore
attribute [local go_sem] max2_int min2_int max_two min_two max_three min_three max_four min_four   -- for this text's walks alone
set_option linter.unusedVariables false
set_option linter.unusedSimpArgs false

/-! ### laws_FnGjValidEscape: function 3 -/
mutual
def laws_FnGjValidEscape.l0 : Nat → Int → Int → Bool → List Int → Int → Int → Option (Bool)
  | 0, _, _, _, _, _, _ => none
  | k + 1, x0, x1, x5, x13, x14, x15 => if x15 < x14 then (if 0 ≤ x15 then (if x15 < (x13.length : Int) then (if x5 = true then (laws_FnGjValidEscape.l0 k x0 x1 true x13 x14 (wrap64 (x15 + 1))) else (laws_FnGjValidEscape.l0 k x0 x1 (x0 == (rd x13 x15)) x13 x14 (wrap64 (x15 + 1)))) else (none)) else (none)) else ((some (([(x1 / 16777216) % 256, (x1 / 65536) % 256, (x1 / 256) % 256, (x1) % 256] : List Int) : List Int)).bind fun y139 => (laws_FnGjValidEscape.l1 k x0 x5 y139 true y139 (y139.length : Int) 0))
def laws_FnGjValidEscape.l1 : Nat → Int → Bool → List Int → Bool → List Int → Int → Int → Option (Bool)
  | 0, _, _, _, _, _, _, _ => none
  | k + 1, x0, x5, x8, x9, x38, x39, x40 => if x40 < x39 then (if 0 ≤ x40 then (if x40 < (x38.length : Int) then (if x9 = true then (if 48 ≤ (rd x38 x40) then (if (rd x38 x40) ≤ 57 then (laws_FnGjValidEscape.l1 k x0 x5 x8 true x38 x39 (wrap64 (x40 + 1))) else (if 97 ≤ (rd x38 x40) then (if (rd x38 x40) ≤ 102 then (laws_FnGjValidEscape.l1 k x0 x5 x8 true x38 x39 (wrap64 (x40 + 1))) else (if 65 ≤ (rd x38 x40) then (laws_FnGjValidEscape.l1 k x0 x5 x8 (decide ((rd x38 x40) ≤ 70)) x38 x39 (wrap64 (x40 + 1))) else (laws_FnGjValidEscape.l1 k x0 x5 x8 false x38 x39 (wrap64 (x40 + 1))))) else (if 65 ≤ (rd x38 x40) then (laws_FnGjValidEscape.l1 k x0 x5 x8 (decide ((rd x38 x40) ≤ 70)) x38 x39 (wrap64 (x40 + 1))) else (laws_FnGjValidEscape.l1 k x0 x5 x8 false x38 x39 (wrap64 (x40 + 1)))))) else (if 97 ≤ (rd x38 x40) then (if (rd x38 x40) ≤ 102 then (laws_FnGjValidEscape.l1 k x0 x5 x8 true x38 x39 (wrap64 (x40 + 1))) else (if 65 ≤ (rd x38 x40) then (laws_FnGjValidEscape.l1 k x0 x5 x8 (decide ((rd x38 x40) ≤ 70)) x38 x39 (wrap64 (x40 + 1))) else (laws_FnGjValidEscape.l1 k x0 x5 x8 false x38 x39 (wrap64 (x40 + 1))))) else (if 65 ≤ (rd x38 x40) then (laws_FnGjValidEscape.l1 k x0 x5 x8 (decide ((rd x38 x40) ≤ 70)) x38 x39 (wrap64 (x40 + 1))) else (laws_FnGjValidEscape.l1 k x0 x5 x8 false x38 x39 (wrap64 (x40 + 1)))))) else (laws_FnGjValidEscape.l1 k x0 x5 x8 false x38 x39 (wrap64 (x40 + 1)))) else (none)) else (none)) else ((some (([x0] : List Int) : List Int)).bind fun y143 => (if 2 + (strOfNums y143).size ≤ 9223372036854775807 then (if 2 + (strOfNums y143).size + 1 ≤ 9223372036854775807 then ((impl_GjValid.f k (((⟨#[34, 92]⟩ : ByteArray) ++ (strOfNums y143)) ++ (⟨#[34]⟩ : ByteArray))).bind fun t146 => (if (t146 == x5) = true then (if 3 + (strOfNums x8).size ≤ 9223372036854775807 then (if 3 + (strOfNums x8).size + 1 ≤ 9223372036854775807 then ((impl_GjValid.f k (((⟨#[34, 92, 117]⟩ : ByteArray) ++ (strOfNums x8)) ++ (⟨#[34]⟩ : ByteArray))).bind fun t147 => (some (t147 == x9))) else (none)) else (none)) else (some false))) else (none)) else (none)))
end
def laws_FnGjValidEscape.f (k : Nat) (a0 : Int) (a1 : Int) : Option (Bool) := (some (([34, 92, 47, 98, 102, 110, 114, 116] : List Int) : List Int)).bind fun y135 => (laws_FnGjValidEscape.l0 k a0 a1 false y135 (y135.length : Int) 0)
theorem laws_FnGjValidEscape.mono_l : ∀ k, (∀ y0 y1 y2 y3 y4 y5, LeO (laws_FnGjValidEscape.l0 k y0 y1 y2 y3 y4 y5) (laws_FnGjValidEscape.l0 (k + 1) y0 y1 y2 y3 y4 y5)) ∧ (∀ y0 y1 y2 y3 y4 y5 y6, LeO (laws_FnGjValidEscape.l1 k y0 y1 y2 y3 y4 y5 y6) (laws_FnGjValidEscape.l1 (k + 1) y0 y1 y2 y3 y4 y5 y6))
  | 0 => ⟨fun _ _ _ _ _ _ r h => by simp [laws_FnGjValidEscape.l0] at h, fun _ _ _ _ _ _ _ r h => by simp [laws_FnGjValidEscape.l1] at h⟩
  | k + 1 => by
    obtain ⟨ih0, ih1⟩ := laws_FnGjValidEscape.mono_l k
    refine ⟨?_, ?_⟩
    · intro y0 y1 y2 y3 y4 y5
      unfold laws_FnGjValidEscape.l0
      repeat' first
      | (with_reducible exact ih0 _ _ _ _ _ _)
      | (with_reducible exact ih1 _ _ _ _ _ _ _)
      | (with_reducible exact impl_GjValid.mono _ _)
      | (with_reducible exact LeO.refl _)
      | (with_reducible exact LeO.none _)
      | (with_reducible refine LeO.ite ?_ ?_)
      | (with_reducible refine LeO.bind ?_ (fun _ => ?_))
      | exact ih0 _ _ _ _ _ _
      | exact ih1 _ _ _ _ _ _ _
      | exact impl_GjValid.mono _ _
      | exact LeO.none _
      | refine LeO.ite ?_ ?_
      | refine LeO.bind ?_ (fun _ => ?_)
    · intro y0 y1 y2 y3 y4 y5 y6
      unfold laws_FnGjValidEscape.l1
      repeat' first
      | (with_reducible exact ih0 _ _ _ _ _ _)
      | (with_reducible exact ih1 _ _ _ _ _ _ _)
      | (with_reducible exact impl_GjValid.mono _ _)
      | (with_reducible exact LeO.refl _)
      | (with_reducible exact LeO.none _)
      | (with_reducible refine LeO.ite ?_ ?_)
      | (with_reducible refine LeO.bind ?_ (fun _ => ?_))
      | exact ih0 _ _ _ _ _ _
      | exact ih1 _ _ _ _ _ _ _
      | exact impl_GjValid.mono _ _
      | exact LeO.none _
      | refine LeO.ite ?_ ?_
      | refine LeO.bind ?_ (fun _ => ?_)
theorem laws_FnGjValidEscape.mono : ∀ a0 a1 k, LeO (laws_FnGjValidEscape.f k a0 a1) (laws_FnGjValidEscape.f (k + 1) a0 a1) := by
  intro a0 a1 k
  obtain ⟨ih0, ih1⟩ := laws_FnGjValidEscape.mono_l k
  unfold laws_FnGjValidEscape.f
  repeat' first
      | (with_reducible exact ih0 _ _ _ _ _ _)
      | (with_reducible exact ih1 _ _ _ _ _ _ _)
      | (with_reducible exact impl_GjValid.mono _ _)
      | (with_reducible exact LeO.refl _)
      | (with_reducible exact LeO.none _)
      | (with_reducible refine LeO.ite ?_ ?_)
      | (with_reducible refine LeO.bind ?_ (fun _ => ?_))
      | exact ih0 _ _ _ _ _ _
      | exact ih1 _ _ _ _ _ _ _
      | exact impl_GjValid.mono _ _
      | exact LeO.none _
      | refine LeO.ite ?_ ?_
      | refine LeO.bind ?_ (fun _ => ?_)
set_option maxHeartbeats 8000000 in
set_option maxRecDepth 100000 in
theorem laws_FnGjValidEscape.calls (k : Nat) (a0 : Int) (a1 : Int) (r : Bool) (w : World) (h : laws_FnGjValidEscape.f k a0 a1 = some r) :
    Calls Try.prog 3 #[.int .u8 a0, .int .u32 a1] w fun e w' => e = .returned (.bool r) ∧ Below w.heap.size w w' := by
  have HB := Aside0.mk (Below.refl w.heap.size w)
  have H : ((some (([34, 92, 47, 98, 102, 110, 114, 116] : List Int) : List Int)).bind fun y135 => (laws_FnGjValidEscape.l0 k a0 a1 false y135 (y135.length : Int) 0)) = some r := h
  clear h
  obtain ⟨y135, hy135⟩ : ∃ y_ : List Int, y_ = (([34, 92, 47, 98, 102, 110, 114, 116] : List Int)) := ⟨_, rfl⟩
  replace H : (laws_FnGjValidEscape.l0 k a0 a1 false y135 (y135.length : Int) 0) = some r := by first | (rw [hy135]; with_reducible exact H) | (have H2_ := (Option.bind_some _ _).symm.trans H; rw [hy135]; with_reducible exact H2_) | (have H2_ := (Option.bind_some _ _).symm.trans H; with_reducible exact H2_) | with_reducible exact H | (rw [hy135]; exact H) | exact H
  have Ny135 := Aside0.mk hy135
  clear hy135
  have H' := Aside0.mk H
  clear H
  go_enter Try.func3, Try.ntmps3
  go_wp2_with (first | ((with_reducible refine gate_dst (N := 13) rfl ?_); refine M_lit_mark _ rfl (N := 13) rfl 23 5 _ ([34, 92, 47, 98, 102, 110, 114, 116] : List Int) rfl rfl rfl Try.underlying23 Try.underlying5 (by decide) (Below.refl _ _) (Nat.le_refl _) ?_; intro v136 w3 ho4 hb hg_ hnew_; clear hg_ hnew_; (first | rw [← Ny135.out] at ho4 | (simp only [Int.reduceToNat] at ho4; rw [← Ny135.out] at ho4)); have n0_ := Aside0.mk (Kd.V_lower (Kd.V_mono (ok' := fun k_ => True) ho4 (fun k_ hk_ => trivial)) (below_size (by repeat (first | (with_reducible first | exact HB.out | apply below_alloc | apply pw_below_drewN | apply below_drew1) | exact HB.out)))); have n1_ := Aside0.mk (below_step (by repeat (first | (with_reducible first | exact HB.out | apply below_alloc | apply pw_below_drewN | apply below_drew1) | exact HB.out)) hb); clear HB; have HO137 := n0_; have HB := n1_; clear n0_ n1_; clear hb ho4; obtain ⟨Ao5, co5, eo5⟩ := Kd.V_slice HO137.out; subst eo5))
  try simp only [Act.put, List.setIfInBounds_toArray, List.set_cons_succ, List.set_cons_zero]
  go_loopg [5, 15] k (fun kq v5 v15 w' => ∃ (x5_1 : Bool) (x15_1 : Int), v5 = .bool x5_1 ∧ v15 = .int .i64 x15_1 ∧ Aside0 (laws_FnGjValidEscape.l0 kq a0 a1 x5_1 y135 (y135.length : Int) x15_1 = some r) ∧ Aside0 (kq ≤ k) ∧ Aside0 (Kd.V (Kd.int .u8) 5 w' w.heap.size (fun _ => True) (.slice Ao5 y135.length co5) y135) ∧ Aside0 (Below w.heap.size w w'))
  case atStart => exact ⟨(false), (0), (by first | rfl | (simp; done) | (simp [*]; done)), (by first | rfl | (simp; done) | (simp [*]; done)), H', ⟨Nat.le_refl _⟩, ⟨by (with_reducible repeat (first | apply Kd.V_alloc | apply Kd.V_drewN | apply Kd.V_drew)); exact HO137.out⟩, ⟨by repeat (first | (with_reducible first | exact HB.out | apply below_alloc | apply pw_below_drewN | apply below_drew1) | exact HB.out)⟩⟩
  case round =>
    clear H'
    try clear p2
    try clear c3
    obtain ⟨x5_1, x15_1, rfl, rfl, HA, HK1, HO_13, HB⟩ := hrel
    cases gk with
    | zero => exact absurd HA.out (by simp [laws_FnGjValidEscape.l0])
    | succ k1 =>
      have H := HA.out
      clear HA
      simp only [laws_FnGjValidEscape.l0] at H
      by_cases c6 : x15_1 < (y135.length : Int)
      · rw [if_pos c6] at H
        have c6b0 : decide (x15_1 < (y135.length : Int)) = true := decide_eq_true c6
        clear c6
        by_cases c7 : 0 ≤ x15_1
        · rw [if_pos c7] at H
          have c7b0 : decide (0 ≤ x15_1) = true := decide_eq_true c7
          clear c7
          by_cases c8 : x15_1 < (y135.length : Int)
          · rw [if_pos c8] at H
            have c8b0 : decide (x15_1 < (y135.length : Int)) = true := decide_eq_true c8
            clear c8
            by_cases c9 : x5_1 = true
            · subst c9
              have H1 : (laws_FnGjValidEscape.l0 k1 a0 a1 true y135 (y135.length : Int) (wrap64 (x15_1 + 1))) = some r := by rw [if_pos rfl] at H; exact H
              clear H
              have H := H1
              clear H1
              have H' := Aside0.mk H
              clear H
              have p138 : 0 ≤ (x15_1 : Int) := of_decide_eq_true (by first | (with_reducible assumption) | assumption)
              have q138 : x15_1 < (y135.length : Int) := of_decide_eq_true (by first | (with_reducible assumption) | assumption)
              obtain ⟨ad138, e138, hx138_0⟩ := Kd.at_int (Kd.V_reads' HO_13.out).2.2 x15_1 p138 q138
              cases e138
              replace p138 := eq_true p138
              replace q138 := eq_true q138
              go_wp2
              go_roundg k1
              case measure => have := HK1.out; omega
              case rel => exact ⟨(true), (wrap64 (x15_1 + 1)), (by first | rfl | (simp; done) | (simp [*]; done)), (by first | rfl | (simp; done) | (simp [*]; done)), H', ⟨by have := HK1.out; omega⟩, ⟨by (with_reducible repeat (first | apply Kd.V_alloc | apply Kd.V_drewN | apply Kd.V_drew)); exact HO_13.out⟩, ⟨by repeat (first | (with_reducible first | exact HB.out | apply below_alloc | apply pw_below_drewN | apply below_drew1) | exact HB.out)⟩⟩
            · replace c9 := Bool.eq_false_iff.mpr c9
              subst c9
              have H1 : (laws_FnGjValidEscape.l0 k1 a0 a1 (a0 == (rd y135 x15_1)) y135 (y135.length : Int) (wrap64 (x15_1 + 1))) = some r := by rw [if_neg (show ¬ (false = true) by decide)] at H; exact H
              clear H
              have H := H1
              clear H1
              have H' := Aside0.mk H
              clear H
              have p138 : 0 ≤ (x15_1 : Int) := of_decide_eq_true (by first | (with_reducible assumption) | assumption)
              have q138 : x15_1 < (y135.length : Int) := of_decide_eq_true (by first | (with_reducible assumption) | assumption)
              obtain ⟨ad138, e138, hx138_0⟩ := Kd.at_int (Kd.V_reads' HO_13.out).2.2 x15_1 p138 q138
              cases e138
              replace p138 := eq_true p138
              replace q138 := eq_true q138
              go_wp2
              go_roundg k1
              case measure => have := HK1.out; omega
              case rel => exact ⟨((a0 == (rd y135 x15_1))), (wrap64 (x15_1 + 1)), (by first | rfl | (simp; done) | (simp [*]; done)), (by first | rfl | (simp; done) | (simp [*]; done)), H', ⟨by have := HK1.out; omega⟩, ⟨by (with_reducible repeat (first | apply Kd.V_alloc | apply Kd.V_drewN | apply Kd.V_drew)); exact HO_13.out⟩, ⟨by repeat (first | (with_reducible first | exact HB.out | apply below_alloc | apply pw_below_drewN | apply below_drew1) | exact HB.out)⟩⟩
          · rw [if_neg c8] at H
            exact absurd H (by simp)
        · rw [if_neg c7] at H
          exact absurd H (by simp)
      · rw [if_neg c6] at H
        have c6b0 : decide (x15_1 < (y135.length : Int)) = false := decide_eq_false c6
        clear c6
        obtain ⟨y139, hy139⟩ : ∃ y_ : List Int, y_ = (([(a1 / 16777216) % 256, (a1 / 65536) % 256, (a1 / 256) % 256, (a1) % 256] : List Int)) := ⟨_, rfl⟩
        replace H : (laws_FnGjValidEscape.l1 k1 a0 x5_1 y139 true y139 (y139.length : Int) 0) = some r := by first | (rw [hy139]; with_reducible exact H) | (have H2_ := (Option.bind_some _ _).symm.trans H; rw [hy139]; with_reducible exact H2_) | (have H2_ := (Option.bind_some _ _).symm.trans H; with_reducible exact H2_) | with_reducible exact H | (rw [hy139]; exact H) | exact H
        have Ny139 := Aside0.mk hy139
        clear hy139
        have H' := Aside0.mk H
        clear H
        go_wp2_with (first | ((with_reducible refine gate_dst (N := 37) rfl ?_); refine Kd.R_lit (Kd.int .u8) _ 5 ?hg (N := 37) ?hd (xs := ([(a1 / 16777216) % 256, (a1 / 65536) % 256, (a1 / 256) % 256, (a1) % 256] : List Int)) (inner := [.int .u8 ((a1 / 16777216) % 256), .int .u8 ((a1 / 65536) % 256), .int .u8 ((a1 / 256) % 256), .int .u8 ((a1) % 256)]) (ok := fun _ => True) (okp := fun _ => True) ?hr ?hp (fun _ hk => hk) trivial (Below.refl _ _) (Nat.le_refl _) (by simp) ?_; (case hd => rfl); (case hg => rfl); (case hr => first | (go_simp; done) | (go_simp; rfl)); (case hp => exact (Reps.one (show Kd.M (Kd.int .u8) _ _ _ ((a1 / 16777216) % 256) [.int .u8 ((a1 / 16777216) % 256)] from rfl) (Reps.one (show Kd.M (Kd.int .u8) _ _ _ ((a1 / 65536) % 256) [.int .u8 ((a1 / 65536) % 256)] from rfl) (Reps.one (show Kd.M (Kd.int .u8) _ _ _ ((a1 / 256) % 256) [.int .u8 ((a1 / 256) % 256)] from rfl) (Reps.one (show Kd.M (Kd.int .u8) _ _ _ ((a1) % 256) [.int .u8 ((a1) % 256)] from rfl) (Reps.none _ _)))))); intro v140 w10 ho11 hb hg_ hnew_; clear hg_ hnew_; (first | rw [← Ny139.out] at ho11 | (simp only [Int.reduceToNat] at ho11; rw [← Ny139.out] at ho11)); have n0_ := Aside0.mk (Kd.V_elder' (by (with_reducible repeat (first | apply Kd.V_alloc | apply Kd.V_drewN | apply Kd.V_drew)); exact HO_13.out) (Kd.R_base ho11) hb); have n1_ := Aside0.mk (Kd.R_lower ho11 (below_size (by repeat (first | (with_reducible first | exact HB.out | apply below_alloc | apply pw_below_drewN | apply below_drew1) | exact HB.out)))); have n2_ := Aside0.mk (below_step (by repeat (first | (with_reducible first | exact HB.out | apply below_alloc | apply pw_below_drewN | apply below_drew1) | exact HB.out)) hb); clear HO_13; clear HB; have HO_13 := n0_; have HO141 := n1_; have HB := n2_; clear n0_ n1_ n2_; clear hb ho11; obtain ⟨Ao12, co12, eo12⟩ := Kd.R_slice HO141.out; subst eo12))
        try simp only [Act.put, List.setIfInBounds_toArray, List.set_cons_succ, List.set_cons_zero]
        go_loopg [9, 40] k1 (fun kq v9 v40 w' => ∃ (x9_2 : Bool) (x40_2 : Int), v9 = .bool x9_2 ∧ v40 = .int .i64 x40_2 ∧ Aside0 (laws_FnGjValidEscape.l1 kq a0 x5_1 y139 x9_2 y139 (y139.length : Int) x40_2 = some r) ∧ Aside0 (kq ≤ k1) ∧ Aside0 (Kd.R (Kd.int .u8) 5 w' w.heap.size (fun _ => True) (.slice Ao12 y139.length co12) y139) ∧ Aside0 (Kd.R (Kd.int .u8) 5 w' w.heap.size (fun _ => True) (.slice Ao12 y139.length co12) y139) ∧ Aside0 (Below w.heap.size w w'))
        case atStart => exact ⟨(true), (0), (by first | rfl | (simp; done) | (simp [*]; done)), (by first | rfl | (simp; done) | (simp [*]; done)), H', ⟨Nat.le_refl _⟩, ⟨by (with_reducible repeat (first | apply Kd.R_alloc | apply Kd.R_drewN | apply Kd.R_drew)); exact HO141.out⟩, ⟨by (with_reducible repeat (first | apply Kd.R_alloc | apply Kd.R_drewN | apply Kd.R_drew)); exact HO141.out⟩, ⟨by repeat (first | (with_reducible first | exact HB.out | apply below_alloc | apply pw_below_drewN | apply below_drew1) | exact HB.out)⟩⟩
        case round =>
          clear H'
          try clear p1
          try clear q1
          try clear hx1
          try clear p2
          try clear c3
          try clear c6
          try clear c6b0
          try clear p6
          try clear c7
          try clear c7b0
          try clear c8
          try clear c8b0
          try clear c9
          try clear hx138_0
          try clear p138
          try clear p2
          try clear q138
          obtain ⟨x9_2, x40_2, rfl, rfl, HA, HK2, HO_8, HO_38, HB⟩ := hrel
          cases gk with
          | zero => exact absurd HA.out (by simp [laws_FnGjValidEscape.l1])
          | succ k2 =>
            have H := HA.out
            clear HA
            simp only [laws_FnGjValidEscape.l1] at H
            by_cases c13 : x40_2 < (y139.length : Int)
            · rw [if_pos c13] at H
              have c13b0 : decide (x40_2 < (y139.length : Int)) = true := decide_eq_true c13
              clear c13
              by_cases c14 : 0 ≤ x40_2
              · rw [if_pos c14] at H
                have c14b0 : decide (0 ≤ x40_2) = true := decide_eq_true c14
                clear c14
                by_cases c15 : x40_2 < (y139.length : Int)
                · rw [if_pos c15] at H
                  have c15b0 : decide (x40_2 < (y139.length : Int)) = true := decide_eq_true c15
                  clear c15
                  by_cases c16 : x9_2 = true
                  · subst c16
                    have H1 : (if 48 ≤ (rd y139 x40_2) then (if (rd y139 x40_2) ≤ 57 then (laws_FnGjValidEscape.l1 k2 a0 x5_1 y139 true y139 (y139.length : Int) (wrap64 (x40_2 + 1))) else (if 97 ≤ (rd y139 x40_2) then (if (rd y139 x40_2) ≤ 102 then (laws_FnGjValidEscape.l1 k2 a0 x5_1 y139 true y139 (y139.length : Int) (wrap64 (x40_2 + 1))) else (if 65 ≤ (rd y139 x40_2) then (laws_FnGjValidEscape.l1 k2 a0 x5_1 y139 (decide ((rd y139 x40_2) ≤ 70)) y139 (y139.length : Int) (wrap64 (x40_2 + 1))) else (laws_FnGjValidEscape.l1 k2 a0 x5_1 y139 false y139 (y139.length : Int) (wrap64 (x40_2 + 1))))) else (if 65 ≤ (rd y139 x40_2) then (laws_FnGjValidEscape.l1 k2 a0 x5_1 y139 (decide ((rd y139 x40_2) ≤ 70)) y139 (y139.length : Int) (wrap64 (x40_2 + 1))) else (laws_FnGjValidEscape.l1 k2 a0 x5_1 y139 false y139 (y139.length : Int) (wrap64 (x40_2 + 1)))))) else (if 97 ≤ (rd y139 x40_2) then (if (rd y139 x40_2) ≤ 102 then (laws_FnGjValidEscape.l1 k2 a0 x5_1 y139 true y139 (y139.length : Int) (wrap64 (x40_2 + 1))) else (if 65 ≤ (rd y139 x40_2) then (laws_FnGjValidEscape.l1 k2 a0 x5_1 y139 (decide ((rd y139 x40_2) ≤ 70)) y139 (y139.length : Int) (wrap64 (x40_2 + 1))) else (laws_FnGjValidEscape.l1 k2 a0 x5_1 y139 false y139 (y139.length : Int) (wrap64 (x40_2 + 1))))) else (if 65 ≤ (rd y139 x40_2) then (laws_FnGjValidEscape.l1 k2 a0 x5_1 y139 (decide ((rd y139 x40_2) ≤ 70)) y139 (y139.length : Int) (wrap64 (x40_2 + 1))) else (laws_FnGjValidEscape.l1 k2 a0 x5_1 y139 false y139 (y139.length : Int) (wrap64 (x40_2 + 1)))))) = some r := by rw [if_pos rfl] at H; exact H
                    clear H
                    have H := H1
                    clear H1
                    by_cases c17 : 48 ≤ (rd y139 x40_2)
                    · rw [if_pos c17] at H
                      have c17b0 : decide (48 ≤ (rd y139 x40_2)) = true := decide_eq_true c17
                      clear c17
                      by_cases c18 : (rd y139 x40_2) ≤ 57
                      · rw [if_pos c18] at H
                        have c18b0 : decide ((rd y139 x40_2) ≤ 57) = true := decide_eq_true c18
                        clear c18
                        have H' := Aside0.mk H
                        clear H
                        have p142 : 0 ≤ (x40_2 : Int) := of_decide_eq_true (by first | (with_reducible assumption) | assumption)
                        have q142 : x40_2 < (y139.length : Int) := of_decide_eq_true (by first | (with_reducible assumption) | assumption)
                        obtain ⟨ad142, e142, hx142_0⟩ := Kd.at_int (Kd.R_reads' HO_38.out).2.2 x40_2 p142 q142
                        cases e142
                        replace p142 := eq_true p142
                        replace q142 := eq_true q142
                        go_wp2
                        go_roundg k2
                        case measure => have := HK1.out; have := HK2.out; omega
                        case rel => exact ⟨(true), (wrap64 (x40_2 + 1)), (by first | rfl | (simp; done) | (simp [*]; done)), (by first | rfl | (simp; done) | (simp [*]; done)), H', ⟨by have := HK1.out; have := HK2.out; omega⟩, ⟨by (with_reducible repeat (first | apply Kd.R_alloc | apply Kd.R_drewN | apply Kd.R_drew)); exact HO_8.out⟩, ⟨by (with_reducible repeat (first | apply Kd.R_alloc | apply Kd.R_drewN | apply Kd.R_drew)); exact HO_38.out⟩, ⟨by repeat (first | (with_reducible first | exact HB.out | apply below_alloc | apply pw_below_drewN | apply below_drew1) | exact HB.out)⟩⟩
                      · rw [if_neg c18] at H
                        have c18b0 : decide ((rd y139 x40_2) ≤ 57) = false := decide_eq_false c18
                        clear c18
                        by_cases c19 : 97 ≤ (rd y139 x40_2)
                        · rw [if_pos c19] at H
                          have c19b0 : decide (97 ≤ (rd y139 x40_2)) = true := decide_eq_true c19
                          clear c19
                          by_cases c20 : (rd y139 x40_2) ≤ 102
                          · rw [if_pos c20] at H
                            have c20b0 : decide ((rd y139 x40_2) ≤ 102) = true := decide_eq_true c20
                            clear c20
                            have H' := Aside0.mk H
                            clear H
                            have p142 : 0 ≤ (x40_2 : Int) := of_decide_eq_true (by first | (with_reducible assumption) | assumption)
                            have q142 : x40_2 < (y139.length : Int) := of_decide_eq_true (by first | (with_reducible assumption) | assumption)
                            obtain ⟨ad142, e142, hx142_0⟩ := Kd.at_int (Kd.R_reads' HO_38.out).2.2 x40_2 p142 q142
                            cases e142
                            replace p142 := eq_true p142
                            replace q142 := eq_true q142
                            go_wp2
                            go_roundg k2
                            case measure => have := HK1.out; have := HK2.out; omega
                            case rel => exact ⟨(true), (wrap64 (x40_2 + 1)), (by first | rfl | (simp; done) | (simp [*]; done)), (by first | rfl | (simp; done) | (simp [*]; done)), H', ⟨by have := HK1.out; have := HK2.out; omega⟩, ⟨by (with_reducible repeat (first | apply Kd.R_alloc | apply Kd.R_drewN | apply Kd.R_drew)); exact HO_8.out⟩, ⟨by (with_reducible repeat (first | apply Kd.R_alloc | apply Kd.R_drewN | apply Kd.R_drew)); exact HO_38.out⟩, ⟨by repeat (first | (with_reducible first | exact HB.out | apply below_alloc | apply pw_below_drewN | apply below_drew1) | exact HB.out)⟩⟩
                          · rw [if_neg c20] at H
                            have c20b0 : decide ((rd y139 x40_2) ≤ 102) = false := decide_eq_false c20
                            clear c20
                            by_cases c21 : 65 ≤ (rd y139 x40_2)
                            · rw [if_pos c21] at H
                              have c21b0 : decide (65 ≤ (rd y139 x40_2)) = true := decide_eq_true c21
                              clear c21
                              have H' := Aside0.mk H
                              clear H
                              have p142 : 0 ≤ (x40_2 : Int) := of_decide_eq_true (by first | (with_reducible assumption) | assumption)
                              have q142 : x40_2 < (y139.length : Int) := of_decide_eq_true (by first | (with_reducible assumption) | assumption)
                              obtain ⟨ad142, e142, hx142_0⟩ := Kd.at_int (Kd.R_reads' HO_38.out).2.2 x40_2 p142 q142
                              cases e142
                              replace p142 := eq_true p142
                              replace q142 := eq_true q142
                              go_wp2
                              go_roundg k2
                              case measure => have := HK1.out; have := HK2.out; omega
                              case rel => exact ⟨(decide ((rd y139 x40_2) ≤ 70)), (wrap64 (x40_2 + 1)), (by first | rfl | (simp; done) | (simp [*]; done)), (by first | rfl | (simp; done) | (simp [*]; done)), H', ⟨by have := HK1.out; have := HK2.out; omega⟩, ⟨by (with_reducible repeat (first | apply Kd.R_alloc | apply Kd.R_drewN | apply Kd.R_drew)); exact HO_8.out⟩, ⟨by (with_reducible repeat (first | apply Kd.R_alloc | apply Kd.R_drewN | apply Kd.R_drew)); exact HO_38.out⟩, ⟨by repeat (first | (with_reducible first | exact HB.out | apply below_alloc | apply pw_below_drewN | apply below_drew1) | exact HB.out)⟩⟩
                            · rw [if_neg c21] at H
                              have c21b0 : decide (65 ≤ (rd y139 x40_2)) = false := decide_eq_false c21
                              clear c21
                              have H' := Aside0.mk H
                              clear H
                              have p142 : 0 ≤ (x40_2 : Int) := of_decide_eq_true (by first | (with_reducible assumption) | assumption)
                              have q142 : x40_2 < (y139.length : Int) := of_decide_eq_true (by first | (with_reducible assumption) | assumption)
                              obtain ⟨ad142, e142, hx142_0⟩ := Kd.at_int (Kd.R_reads' HO_38.out).2.2 x40_2 p142 q142
                              cases e142
                              replace p142 := eq_true p142
                              replace q142 := eq_true q142
                              go_wp2
                              go_roundg k2
                              case measure => have := HK1.out; have := HK2.out; omega
                              case rel => exact ⟨(false), (wrap64 (x40_2 + 1)), (by first | rfl | (simp; done) | (simp [*]; done)), (by first | rfl | (simp; done) | (simp [*]; done)), H', ⟨by have := HK1.out; have := HK2.out; omega⟩, ⟨by (with_reducible repeat (first | apply Kd.R_alloc | apply Kd.R_drewN | apply Kd.R_drew)); exact HO_8.out⟩, ⟨by (with_reducible repeat (first | apply Kd.R_alloc | apply Kd.R_drewN | apply Kd.R_drew)); exact HO_38.out⟩, ⟨by repeat (first | (with_reducible first | exact HB.out | apply below_alloc | apply pw_below_drewN | apply below_drew1) | exact HB.out)⟩⟩
                        · rw [if_neg c19] at H
                          have c19b0 : decide (97 ≤ (rd y139 x40_2)) = false := decide_eq_false c19
                          clear c19
                          by_cases c22 : 65 ≤ (rd y139 x40_2)
                          · rw [if_pos c22] at H
                            have c22b0 : decide (65 ≤ (rd y139 x40_2)) = true := decide_eq_true c22
                            clear c22
                            have H' := Aside0.mk H
                            clear H
                            have p142 : 0 ≤ (x40_2 : Int) := of_decide_eq_true (by first | (with_reducible assumption) | assumption)
                            have q142 : x40_2 < (y139.length : Int) := of_decide_eq_true (by first | (with_reducible assumption) | assumption)
                            obtain ⟨ad142, e142, hx142_0⟩ := Kd.at_int (Kd.R_reads' HO_38.out).2.2 x40_2 p142 q142
                            cases e142
                            replace p142 := eq_true p142
                            replace q142 := eq_true q142
                            go_wp2
                            go_roundg k2
                            case measure => have := HK1.out; have := HK2.out; omega
                            case rel => exact ⟨(decide ((rd y139 x40_2) ≤ 70)), (wrap64 (x40_2 + 1)), (by first | rfl | (simp; done) | (simp [*]; done)), (by first | rfl | (simp; done) | (simp [*]; done)), H', ⟨by have := HK1.out; have := HK2.out; omega⟩, ⟨by (with_reducible repeat (first | apply Kd.R_alloc | apply Kd.R_drewN | apply Kd.R_drew)); exact HO_8.out⟩, ⟨by (with_reducible repeat (first | apply Kd.R_alloc | apply Kd.R_drewN | apply Kd.R_drew)); exact HO_38.out⟩, ⟨by repeat (first | (with_reducible first | exact HB.out | apply below_alloc | apply pw_below_drewN | apply below_drew1) | exact HB.out)⟩⟩
                          · rw [if_neg c22] at H
                            have c22b0 : decide (65 ≤ (rd y139 x40_2)) = false := decide_eq_false c22
                            clear c22
                            have H' := Aside0.mk H
                            clear H
                            have p142 : 0 ≤ (x40_2 : Int) := of_decide_eq_true (by first | (with_reducible assumption) | assumption)
                            have q142 : x40_2 < (y139.length : Int) := of_decide_eq_true (by first | (with_reducible assumption) | assumption)
                            obtain ⟨ad142, e142, hx142_0⟩ := Kd.at_int (Kd.R_reads' HO_38.out).2.2 x40_2 p142 q142
                            cases e142
                            replace p142 := eq_true p142
                            replace q142 := eq_true q142
                            go_wp2
                            go_roundg k2
                            case measure => have := HK1.out; have := HK2.out; omega
                            case rel => exact ⟨(false), (wrap64 (x40_2 + 1)), (by first | rfl | (simp; done) | (simp [*]; done)), (by first | rfl | (simp; done) | (simp [*]; done)), H', ⟨by have := HK1.out; have := HK2.out; omega⟩, ⟨by (with_reducible repeat (first | apply Kd.R_alloc | apply Kd.R_drewN | apply Kd.R_drew)); exact HO_8.out⟩, ⟨by (with_reducible repeat (first | apply Kd.R_alloc | apply Kd.R_drewN | apply Kd.R_drew)); exact HO_38.out⟩, ⟨by repeat (first | (with_reducible first | exact HB.out | apply below_alloc | apply pw_below_drewN | apply below_drew1) | exact HB.out)⟩⟩
                    · rw [if_neg c17] at H
                      have c17b0 : decide (48 ≤ (rd y139 x40_2)) = false := decide_eq_false c17
                      clear c17
                      by_cases c23 : 97 ≤ (rd y139 x40_2)
                      · rw [if_pos c23] at H
                        have c23b0 : decide (97 ≤ (rd y139 x40_2)) = true := decide_eq_true c23
                        clear c23
                        by_cases c24 : (rd y139 x40_2) ≤ 102
                        · rw [if_pos c24] at H
                          have c24b0 : decide ((rd y139 x40_2) ≤ 102) = true := decide_eq_true c24
                          clear c24
                          have H' := Aside0.mk H
                          clear H
                          have p142 : 0 ≤ (x40_2 : Int) := of_decide_eq_true (by first | (with_reducible assumption) | assumption)
                          have q142 : x40_2 < (y139.length : Int) := of_decide_eq_true (by first | (with_reducible assumption) | assumption)
                          obtain ⟨ad142, e142, hx142_0⟩ := Kd.at_int (Kd.R_reads' HO_38.out).2.2 x40_2 p142 q142
                          cases e142
                          replace p142 := eq_true p142
                          replace q142 := eq_true q142
                          go_wp2
                          go_roundg k2
                          case measure => have := HK1.out; have := HK2.out; omega
                          case rel => exact ⟨(true), (wrap64 (x40_2 + 1)), (by first | rfl | (simp; done) | (simp [*]; done)), (by first | rfl | (simp; done) | (simp [*]; done)), H', ⟨by have := HK1.out; have := HK2.out; omega⟩, ⟨by (with_reducible repeat (first | apply Kd.R_alloc | apply Kd.R_drewN | apply Kd.R_drew)); exact HO_8.out⟩, ⟨by (with_reducible repeat (first | apply Kd.R_alloc | apply Kd.R_drewN | apply Kd.R_drew)); exact HO_38.out⟩, ⟨by repeat (first | (with_reducible first | exact HB.out | apply below_alloc | apply pw_below_drewN | apply below_drew1) | exact HB.out)⟩⟩
                        · rw [if_neg c24] at H
                          have c24b0 : decide ((rd y139 x40_2) ≤ 102) = false := decide_eq_false c24
                          clear c24
                          by_cases c25 : 65 ≤ (rd y139 x40_2)
                          · rw [if_pos c25] at H
                            have c25b0 : decide (65 ≤ (rd y139 x40_2)) = true := decide_eq_true c25
                            clear c25
                            have H' := Aside0.mk H
                            clear H
                            have p142 : 0 ≤ (x40_2 : Int) := of_decide_eq_true (by first | (with_reducible assumption) | assumption)
                            have q142 : x40_2 < (y139.length : Int) := of_decide_eq_true (by first | (with_reducible assumption) | assumption)
                            obtain ⟨ad142, e142, hx142_0⟩ := Kd.at_int (Kd.R_reads' HO_38.out).2.2 x40_2 p142 q142
                            cases e142
                            replace p142 := eq_true p142
                            replace q142 := eq_true q142
                            go_wp2
                            go_roundg k2
                            case measure => have := HK1.out; have := HK2.out; omega
                            case rel => exact ⟨(decide ((rd y139 x40_2) ≤ 70)), (wrap64 (x40_2 + 1)), (by first | rfl | (simp; done) | (simp [*]; done)), (by first | rfl | (simp; done) | (simp [*]; done)), H', ⟨by have := HK1.out; have := HK2.out; omega⟩, ⟨by (with_reducible repeat (first | apply Kd.R_alloc | apply Kd.R_drewN | apply Kd.R_drew)); exact HO_8.out⟩, ⟨by (with_reducible repeat (first | apply Kd.R_alloc | apply Kd.R_drewN | apply Kd.R_drew)); exact HO_38.out⟩, ⟨by repeat (first | (with_reducible first | exact HB.out | apply below_alloc | apply pw_below_drewN | apply below_drew1) | exact HB.out)⟩⟩
                          · rw [if_neg c25] at H
                            have c25b0 : decide (65 ≤ (rd y139 x40_2)) = false := decide_eq_false c25
                            clear c25
                            have H' := Aside0.mk H
                            clear H
                            have p142 : 0 ≤ (x40_2 : Int) := of_decide_eq_true (by first | (with_reducible assumption) | assumption)
                            have q142 : x40_2 < (y139.length : Int) := of_decide_eq_true (by first | (with_reducible assumption) | assumption)
                            obtain ⟨ad142, e142, hx142_0⟩ := Kd.at_int (Kd.R_reads' HO_38.out).2.2 x40_2 p142 q142
                            cases e142
                            replace p142 := eq_true p142
                            replace q142 := eq_true q142
                            go_wp2
                            go_roundg k2
                            case measure => have := HK1.out; have := HK2.out; omega
                            case rel => exact ⟨(false), (wrap64 (x40_2 + 1)), (by first | rfl | (simp; done) | (simp [*]; done)), (by first | rfl | (simp; done) | (simp [*]; done)), H', ⟨by have := HK1.out; have := HK2.out; omega⟩, ⟨by (with_reducible repeat (first | apply Kd.R_alloc | apply Kd.R_drewN | apply Kd.R_drew)); exact HO_8.out⟩, ⟨by (with_reducible repeat (first | apply Kd.R_alloc | apply Kd.R_drewN | apply Kd.R_drew)); exact HO_38.out⟩, ⟨by repeat (first | (with_reducible first | exact HB.out | apply below_alloc | apply pw_below_drewN | apply below_drew1) | exact HB.out)⟩⟩
                      · rw [if_neg c23] at H
                        have c23b0 : decide (97 ≤ (rd y139 x40_2)) = false := decide_eq_false c23
                        clear c23
                        by_cases c26 : 65 ≤ (rd y139 x40_2)
                        · rw [if_pos c26] at H
                          have c26b0 : decide (65 ≤ (rd y139 x40_2)) = true := decide_eq_true c26
                          clear c26
                          have H' := Aside0.mk H
                          clear H
                          have p142 : 0 ≤ (x40_2 : Int) := of_decide_eq_true (by first | (with_reducible assumption) | assumption)
                          have q142 : x40_2 < (y139.length : Int) := of_decide_eq_true (by first | (with_reducible assumption) | assumption)
                          obtain ⟨ad142, e142, hx142_0⟩ := Kd.at_int (Kd.R_reads' HO_38.out).2.2 x40_2 p142 q142
                          cases e142
                          replace p142 := eq_true p142
                          replace q142 := eq_true q142
                          go_wp2
                          go_roundg k2
                          case measure => have := HK1.out; have := HK2.out; omega
                          case rel => exact ⟨(decide ((rd y139 x40_2) ≤ 70)), (wrap64 (x40_2 + 1)), (by first | rfl | (simp; done) | (simp [*]; done)), (by first | rfl | (simp; done) | (simp [*]; done)), H', ⟨by have := HK1.out; have := HK2.out; omega⟩, ⟨by (with_reducible repeat (first | apply Kd.R_alloc | apply Kd.R_drewN | apply Kd.R_drew)); exact HO_8.out⟩, ⟨by (with_reducible repeat (first | apply Kd.R_alloc | apply Kd.R_drewN | apply Kd.R_drew)); exact HO_38.out⟩, ⟨by repeat (first | (with_reducible first | exact HB.out | apply below_alloc | apply pw_below_drewN | apply below_drew1) | exact HB.out)⟩⟩
                        · rw [if_neg c26] at H
                          have c26b0 : decide (65 ≤ (rd y139 x40_2)) = false := decide_eq_false c26
                          clear c26
                          have H' := Aside0.mk H
                          clear H
                          have p142 : 0 ≤ (x40_2 : Int) := of_decide_eq_true (by first | (with_reducible assumption) | assumption)
                          have q142 : x40_2 < (y139.length : Int) := of_decide_eq_true (by first | (with_reducible assumption) | assumption)
                          obtain ⟨ad142, e142, hx142_0⟩ := Kd.at_int (Kd.R_reads' HO_38.out).2.2 x40_2 p142 q142
                          cases e142
                          replace p142 := eq_true p142
                          replace q142 := eq_true q142
                          go_wp2
                          go_roundg k2
                          case measure => have := HK1.out; have := HK2.out; omega
                          case rel => exact ⟨(false), (wrap64 (x40_2 + 1)), (by first | rfl | (simp; done) | (simp [*]; done)), (by first | rfl | (simp; done) | (simp [*]; done)), H', ⟨by have := HK1.out; have := HK2.out; omega⟩, ⟨by (with_reducible repeat (first | apply Kd.R_alloc | apply Kd.R_drewN | apply Kd.R_drew)); exact HO_8.out⟩, ⟨by (with_reducible repeat (first | apply Kd.R_alloc | apply Kd.R_drewN | apply Kd.R_drew)); exact HO_38.out⟩, ⟨by repeat (first | (with_reducible first | exact HB.out | apply below_alloc | apply pw_below_drewN | apply below_drew1) | exact HB.out)⟩⟩
                  · replace c16 := Bool.eq_false_iff.mpr c16
                    subst c16
                    have H1 : (laws_FnGjValidEscape.l1 k2 a0 x5_1 y139 false y139 (y139.length : Int) (wrap64 (x40_2 + 1))) = some r := by rw [if_neg (show ¬ (false = true) by decide)] at H; exact H
                    clear H
                    have H := H1
                    clear H1
                    have H' := Aside0.mk H
                    clear H
                    have p142 : 0 ≤ (x40_2 : Int) := of_decide_eq_true (by first | (with_reducible assumption) | assumption)
                    have q142 : x40_2 < (y139.length : Int) := of_decide_eq_true (by first | (with_reducible assumption) | assumption)
                    obtain ⟨ad142, e142, hx142_0⟩ := Kd.at_int (Kd.R_reads' HO_38.out).2.2 x40_2 p142 q142
                    cases e142
                    replace p142 := eq_true p142
                    replace q142 := eq_true q142
                    go_wp2
                    go_roundg k2
                    case measure => have := HK1.out; have := HK2.out; omega
                    case rel => exact ⟨(false), (wrap64 (x40_2 + 1)), (by first | rfl | (simp; done) | (simp [*]; done)), (by first | rfl | (simp; done) | (simp [*]; done)), H', ⟨by have := HK1.out; have := HK2.out; omega⟩, ⟨by (with_reducible repeat (first | apply Kd.R_alloc | apply Kd.R_drewN | apply Kd.R_drew)); exact HO_8.out⟩, ⟨by (with_reducible repeat (first | apply Kd.R_alloc | apply Kd.R_drewN | apply Kd.R_drew)); exact HO_38.out⟩, ⟨by repeat (first | (with_reducible first | exact HB.out | apply below_alloc | apply pw_below_drewN | apply below_drew1) | exact HB.out)⟩⟩
                · rw [if_neg c15] at H
                  exact absurd H (by simp)
              · rw [if_neg c14] at H
                exact absurd H (by simp)
            · rw [if_neg c13] at H
              have c13b0 : decide (x40_2 < (y139.length : Int)) = false := decide_eq_false c13
              clear c13
              obtain ⟨y143, hy143⟩ : ∃ y_ : List Int, y_ = (([a0] : List Int)) := ⟨_, rfl⟩
              replace H : (if 2 + (strOfNums y143).size ≤ 9223372036854775807 then (if 2 + (strOfNums y143).size + 1 ≤ 9223372036854775807 then ((impl_GjValid.f k2 (((⟨#[34, 92]⟩ : ByteArray) ++ (strOfNums y143)) ++ (⟨#[34]⟩ : ByteArray))).bind fun t146 => (if (t146 == x5_1) = true then (if 3 + (strOfNums y139).size ≤ 9223372036854775807 then (if 3 + (strOfNums y139).size + 1 ≤ 9223372036854775807 then ((impl_GjValid.f k2 (((⟨#[34, 92, 117]⟩ : ByteArray) ++ (strOfNums y139)) ++ (⟨#[34]⟩ : ByteArray))).bind fun t147 => (some (t147 == x9_2))) else (none)) else (none)) else (some false))) else (none)) else (none)) = some r := by first | (rw [hy143]; with_reducible exact H) | (have H2_ := (Option.bind_some _ _).symm.trans H; rw [hy143]; with_reducible exact H2_) | (have H2_ := (Option.bind_some _ _).symm.trans H; with_reducible exact H2_) | with_reducible exact H | (rw [hy143]; exact H) | exact H
              have Ny143 := Aside0.mk hy143
              clear hy143
              by_cases c27 : 2 + (strOfNums y143).size ≤ 9223372036854775807
              · rw [if_pos c27] at H
                have c27b0 := eq_true c27
                have c27b1 : decide (2 + (strOfNums y143).size ≤ 9223372036854775807) = true := decide_eq_true c27
                try have c27b2 : (9223372036854775807 < 2 + (strOfNums y143).size) = False := eq_false (Nat.not_lt.2 c27)
                clear c27
                by_cases c28 : 2 + (strOfNums y143).size + 1 ≤ 9223372036854775807
                · rw [if_pos c28] at H
                  have c28b0 := eq_true c28
                  have c28b1 : decide (2 + (strOfNums y143).size + 1 ≤ 9223372036854775807) = true := decide_eq_true c28
                  try have c28b2 : (9223372036854775807 < 2 + (strOfNums y143).size + 1) = False := eq_false (Nat.not_lt.2 c28)
                  clear c28
                  replace H := Option.bind_eq_some_iff.mp H
                  obtain ⟨t146, A290, H⟩ := H
                  replace H : (if (t146 == x5_1) = true then (if 3 + (strOfNums y139).size ≤ 9223372036854775807 then (if 3 + (strOfNums y139).size + 1 ≤ 9223372036854775807 then ((impl_GjValid.f k2 (((⟨#[34, 92, 117]⟩ : ByteArray) ++ (strOfNums y139)) ++ (⟨#[34]⟩ : ByteArray))).bind fun t147 => (some (t147 == x9_2))) else (none)) else (none)) else (some false)) = some r := H
                  have A29 := Aside0.mk A290
                  clear A290
                  by_cases c30 : (t146 == x5_1) = true
                  · rw [if_pos c30] at H
                    have c30b0 : (t146 == x5_1) = true := c30
                    (try (have c30b1 : decide (t146 = x5_1) = true := by simpa using c30))
                    (try (have c30b2 : (t146 == x5_1) = true := by simpa using c30))
                    clear c30
                    by_cases c31 : 3 + (strOfNums y139).size ≤ 9223372036854775807
                    · rw [if_pos c31] at H
                      have c31b0 := eq_true c31
                      have c31b1 : decide (3 + (strOfNums y139).size ≤ 9223372036854775807) = true := decide_eq_true c31
                      try have c31b2 : (9223372036854775807 < 3 + (strOfNums y139).size) = False := eq_false (Nat.not_lt.2 c31)
                      clear c31
                      by_cases c32 : 3 + (strOfNums y139).size + 1 ≤ 9223372036854775807
                      · rw [if_pos c32] at H
                        have c32b0 := eq_true c32
                        have c32b1 : decide (3 + (strOfNums y139).size + 1 ≤ 9223372036854775807) = true := decide_eq_true c32
                        try have c32b2 : (9223372036854775807 < 3 + (strOfNums y139).size + 1) = False := eq_false (Nat.not_lt.2 c32)
                        clear c32
                        replace H := Option.bind_eq_some_iff.mp H
                        obtain ⟨t147, A330, H⟩ := H
                        replace H : (some (t147 == x9_2)) = some r := H
                        have A33 := Aside0.mk A330
                        clear A330
                        obtain rfl := Option.some.inj H
                        go_wp2_with (first | ((with_reducible refine gate_dst (N := 71) rfl ?_); refine Kd.R_lit (Kd.int .u8) _ 5 ?hg (N := 71) ?hd (xs := ([a0] : List Int)) (inner := [.int .u8 a0]) (ok := fun _ => True) (okp := fun _ => True) ?hr ?hp (fun _ hk => hk) trivial (Below.refl _ _) (Nat.le_refl _) (by simp) ?_; (case hd => rfl); (case hg => rfl); (case hr => first | (go_simp; done) | (go_simp; rfl)); (case hp => exact (Reps.one (show Kd.M (Kd.int .u8) _ _ _ a0 [.int .u8 a0] from rfl) (Reps.none _ _))); intro v144 w34 ho35 hb hg_ hnew_; clear hg_ hnew_; (first | rw [← Ny143.out] at ho35 | (simp only [Int.reduceToNat] at ho35; rw [← Ny143.out] at ho35)); have n0_ := Aside0.mk (Kd.R_elder' (by (with_reducible repeat (first | apply Kd.R_alloc | apply Kd.R_drewN | apply Kd.R_drew)); exact HO_8.out) (Kd.R_base ho35) hb); have n1_ := Aside0.mk (Kd.R_elder' (by (with_reducible repeat (first | apply Kd.R_alloc | apply Kd.R_drewN | apply Kd.R_drew)); exact HO_38.out) (Kd.R_base ho35) hb); have n2_ := Aside0.mk (Kd.R_lower (Kd.R_new' (Kd.R_new' ho35 (Kd.R_lt (by (with_reducible repeat (first | apply Kd.R_alloc | apply Kd.R_drewN | apply Kd.R_drew)); exact HO_8.out))) (Kd.R_lt (by (with_reducible repeat (first | apply Kd.R_alloc | apply Kd.R_drewN | apply Kd.R_drew)); exact HO_38.out))) (below_size (by repeat (first | (with_reducible first | exact HB.out | apply below_alloc | apply pw_below_drewN | apply below_drew1) | exact HB.out)))); have n3_ := Aside0.mk (below_step (by repeat (first | (with_reducible first | exact HB.out | apply below_alloc | apply pw_below_drewN | apply below_drew1) | exact HB.out)) hb); clear HO_8; clear HO_38; clear HB; have HO_8 := n0_; have HO_38 := n1_; have HO145 := n2_; have HB := n3_; clear n0_ n1_ n2_ n3_; clear hb ho35; have hcv36 := own_string (P := Try.prog) Try.underlying23 Try.underlying5 Try.underlying9 (Kd.own_of_R HO145.out)) | ((with_reducible refine gate_callee (f := 4) rfl ?_); refine goesL_ (some 75) rfl rfl Try.func4 (by kernel_rfl) rfl #[.string (((⟨#[34, 92]⟩ : ByteArray) ++ (strOfNums y143)) ++ (⟨#[34]⟩ : ByteArray))] rfl (by (try simp only [List.map_toArray, List.map_cons, List.map_nil]); first | done | rfl | (simp only [List.length_drop, List.length_take]; rfl)) ?_; (with_reducible refine (impl_GjValid.calls k2 (((⟨#[34, 92]⟩ : ByteArray) ++ (strOfNums y143)) ++ (⟨#[34]⟩ : ByteArray)) t146 _ A29.out).mono ?_); rintro e w37 ⟨rfl, hb⟩; refine ⟨_, rfl, ?_⟩; have n0_ := Aside0.mk (Kd.R_below (by (with_reducible repeat (first | apply Kd.R_alloc | apply Kd.R_drewN | apply Kd.R_drew)); exact HO_8.out) hb); have n1_ := Aside0.mk (Kd.R_below (by (with_reducible repeat (first | apply Kd.R_alloc | apply Kd.R_drewN | apply Kd.R_drew)); exact HO_38.out) hb); have n2_ := Aside0.mk (Kd.R_below (by (with_reducible repeat (first | apply Kd.R_alloc | apply Kd.R_drewN | apply Kd.R_drew)); exact HO145.out) hb); have n3_ := Aside0.mk (below_step (by repeat (first | (with_reducible first | exact HB.out | apply below_alloc | apply pw_below_drewN | apply below_drew1) | exact HB.out)) hb); clear HO_8; clear HO_38; clear HO145; clear HB; have HO_8 := n0_; have HO_38 := n1_; have HO145 := n2_; have HB := n3_; clear n0_ n1_ n2_ n3_; (try clear hb); (try clear hb2); (try clear hk); (try clear hi); have hcv38 := own_string (P := Try.prog) Try.underlying23 Try.underlying5 Try.underlying9 (Kd.own_of_R HO_8.out)) | (go_at_call 4; (with_reducible refine (impl_GjValid.calls k2 (((⟨#[34, 92, 117]⟩ : ByteArray) ++ (strOfNums y139)) ++ (⟨#[34]⟩ : ByteArray)) t147 _ A33.out).mono ?_); rintro e w39 ⟨rfl, hb⟩; have n0_ := Aside0.mk (Kd.R_below (by (with_reducible repeat (first | apply Kd.R_alloc | apply Kd.R_drewN | apply Kd.R_drew)); exact HO_8.out) hb); have n1_ := Aside0.mk (Kd.R_below (by (with_reducible repeat (first | apply Kd.R_alloc | apply Kd.R_drewN | apply Kd.R_drew)); exact HO_38.out) hb); have n2_ := Aside0.mk (Kd.R_below (by (with_reducible repeat (first | apply Kd.R_alloc | apply Kd.R_drewN | apply Kd.R_drew)); exact HO145.out) hb); have n3_ := Aside0.mk (below_step (by repeat (first | (with_reducible first | exact HB.out | apply below_alloc | apply pw_below_drewN | apply below_drew1) | exact HB.out)) hb); clear HO_8; clear HO_38; clear HO145; clear HB; have HO_8 := n0_; have HO_38 := n1_; have HO145 := n2_; have HB := n3_; clear n0_ n1_ n2_ n3_; (try clear hb); (try clear hb2); (try clear hk); (try clear hi)))
                        go_ret
                        exact ⟨by first | rfl | (simp [errW_none, errW_some] <;> rfl) | (simp [*, errW_none, errW_some] <;> rfl), by repeat (first | (with_reducible first | exact HB.out | apply below_alloc | apply pw_below_drewN | apply below_drew1) | exact HB.out)⟩
                      · rw [if_neg c32] at H
                        exact absurd H (by simp)
                    · rw [if_neg c31] at H
                      exact absurd H (by simp)
                  · rw [if_neg c30] at H
                    have c30b0 : (t146 == x5_1) = false := by simpa using c30
                    (try (have c30b1 : decide (t146 = x5_1) = false := by simpa using c30))
                    (try (have c30b2 : (t146 == x5_1) = false := by simpa using c30))
                    (try (have c30b3 : ¬ (t146 = x5_1) := by simpa using c30))
                    clear c30
                    obtain rfl := Option.some.inj H
                    go_wp2_with (first | ((with_reducible refine gate_dst (N := 71) rfl ?_); refine Kd.R_lit (Kd.int .u8) _ 5 ?hg (N := 71) ?hd (xs := ([a0] : List Int)) (inner := [.int .u8 a0]) (ok := fun _ => True) (okp := fun _ => True) ?hr ?hp (fun _ hk => hk) trivial (Below.refl _ _) (Nat.le_refl _) (by simp) ?_; (case hd => rfl); (case hg => rfl); (case hr => first | (go_simp; done) | (go_simp; rfl)); (case hp => exact (Reps.one (show Kd.M (Kd.int .u8) _ _ _ a0 [.int .u8 a0] from rfl) (Reps.none _ _))); intro v144 w40 ho41 hb hg_ hnew_; clear hg_ hnew_; (first | rw [← Ny143.out] at ho41 | (simp only [Int.reduceToNat] at ho41; rw [← Ny143.out] at ho41)); have n0_ := Aside0.mk (Kd.R_elder' (by (with_reducible repeat (first | apply Kd.R_alloc | apply Kd.R_drewN | apply Kd.R_drew)); exact HO_8.out) (Kd.R_base ho41) hb); have n1_ := Aside0.mk (Kd.R_elder' (by (with_reducible repeat (first | apply Kd.R_alloc | apply Kd.R_drewN | apply Kd.R_drew)); exact HO_38.out) (Kd.R_base ho41) hb); have n2_ := Aside0.mk (Kd.R_lower (Kd.R_new' (Kd.R_new' ho41 (Kd.R_lt (by (with_reducible repeat (first | apply Kd.R_alloc | apply Kd.R_drewN | apply Kd.R_drew)); exact HO_8.out))) (Kd.R_lt (by (with_reducible repeat (first | apply Kd.R_alloc | apply Kd.R_drewN | apply Kd.R_drew)); exact HO_38.out))) (below_size (by repeat (first | (with_reducible first | exact HB.out | apply below_alloc | apply pw_below_drewN | apply below_drew1) | exact HB.out)))); have n3_ := Aside0.mk (below_step (by repeat (first | (with_reducible first | exact HB.out | apply below_alloc | apply pw_below_drewN | apply below_drew1) | exact HB.out)) hb); clear HO_8; clear HO_38; clear HB; have HO_8 := n0_; have HO_38 := n1_; have HO145 := n2_; have HB := n3_; clear n0_ n1_ n2_ n3_; clear hb ho41; have hcv42 := own_string (P := Try.prog) Try.underlying23 Try.underlying5 Try.underlying9 (Kd.own_of_R HO145.out)) | ((with_reducible refine gate_callee (f := 4) rfl ?_); refine goesL_ (some 75) rfl rfl Try.func4 (by kernel_rfl) rfl #[.string (((⟨#[34, 92]⟩ : ByteArray) ++ (strOfNums y143)) ++ (⟨#[34]⟩ : ByteArray))] rfl (by (try simp only [List.map_toArray, List.map_cons, List.map_nil]); first | done | rfl | (simp only [List.length_drop, List.length_take]; rfl)) ?_; (with_reducible refine (impl_GjValid.calls k2 (((⟨#[34, 92]⟩ : ByteArray) ++ (strOfNums y143)) ++ (⟨#[34]⟩ : ByteArray)) t146 _ A29.out).mono ?_); rintro e w43 ⟨rfl, hb⟩; refine ⟨_, rfl, ?_⟩; have n0_ := Aside0.mk (Kd.R_below (by (with_reducible repeat (first | apply Kd.R_alloc | apply Kd.R_drewN | apply Kd.R_drew)); exact HO_8.out) hb); have n1_ := Aside0.mk (Kd.R_below (by (with_reducible repeat (first | apply Kd.R_alloc | apply Kd.R_drewN | apply Kd.R_drew)); exact HO_38.out) hb); have n2_ := Aside0.mk (Kd.R_below (by (with_reducible repeat (first | apply Kd.R_alloc | apply Kd.R_drewN | apply Kd.R_drew)); exact HO145.out) hb); have n3_ := Aside0.mk (below_step (by repeat (first | (with_reducible first | exact HB.out | apply below_alloc | apply pw_below_drewN | apply below_drew1) | exact HB.out)) hb); clear HO_8; clear HO_38; clear HO145; clear HB; have HO_8 := n0_; have HO_38 := n1_; have HO145 := n2_; have HB := n3_; clear n0_ n1_ n2_ n3_; (try clear hb); (try clear hb2); (try clear hk); (try clear hi)))
                    go_ret
                    exact ⟨by first | rfl | (simp [errW_none, errW_some] <;> rfl) | (simp [*, errW_none, errW_some] <;> rfl), by repeat (first | (with_reducible first | exact HB.out | apply below_alloc | apply pw_below_drewN | apply below_drew1) | exact HB.out)⟩
                · rw [if_neg c28] at H
                  exact absurd H (by simp)
              · rw [if_neg c27] at H
                exact absurd H (by simp)

/-- THE ONE PURE STATEMENT of laws_FnGjValidEscape: yours. -/
def laws_FnGjValidEscape.Pure : Prop := ∀ (a0 : Int) (a1 : Int), (Lit.int .u8 a0).wf = true → (Lit.int .u32 a1).wf = true → ∃ k, laws_FnGjValidEscape.f k a0 a1 = some true
theorem laws_FnGjValidEscape.walk (P : laws_FnGjValidEscape.Pure) (a0 : Int) (a1 : Int) (w : World) (w0 : (Lit.int .u8 a0).wf = true) (w1 : (Lit.int .u32 a1).wf = true) :
    Calls Try.prog 3 #[.int .u8 a0, .int .u32 a1] w fun e w' => e = .returned (.bool true) ∧ Below w.heap.size w w' := by
  obtain ⟨k, h⟩ := P a0 a1 w0 w1
  refine (laws_FnGjValidEscape.calls k a0 a1 true w h).mono ?_
  rintro e w' ⟨rfl, hd⟩
  exact ⟨rfl, hd⟩

end Go.Proofs.Ytfpbbnllaogclaa.PA
