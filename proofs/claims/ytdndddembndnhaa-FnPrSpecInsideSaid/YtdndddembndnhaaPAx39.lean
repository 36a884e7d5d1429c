-- Written by a program of this session out of the translation (a changed copy of the kit's print); Lean checks it.
import Derived.Test.YtdndddembndnhaaPAx0
import Derived.Test.YtdndddembndnhaaPAx37
import Derived.Test.YtdndddembndnhaaPAx38
namespace Go.Proofs.Ytdndddembndnhaa.PA
open Go.RowKit Go.Proofs.YtdndddembndnhaaW.PrintWords Go.Proofs.YtdndddembndnhaaW.PrintLast Go.Proofs.YtdndddembndnhaaW.PrintMore
attribute [local go_sem] max2_int min2_int max_two min_two max_three min_three max_four min_four   -- for this text's walks alone
set_option linter.unusedVariables false
set_option linter.unusedSimpArgs false

/-! ### spec_Quote: function 18 -/
mutual
def spec_Quote.l0 : Nat → ByteArray → List Int → Int → Option (ByteArray)
  | 0, _, _, _ => none
  | k + 1, x0, x3, x4 => if x4 < (x0.size : Int) then (if 0 ≤ x4 then ((spec_shortOf.f (bt x0 x4)).bind fun bt388 => (if bt388.2 = true then (spec_Quote.j1 k x0 x3 x4 (bt x0 x4) bt388.1 ((bt x0 x4) != 47)) else (spec_Quote.j1 k x0 x3 x4 (bt x0 x4) bt388.1 false))) else (none)) else (if x3.length < 140737488355328 then (some (strOfNums (x3 ++ [34]))) else (none))
def spec_Quote.j1 : Nat → ByteArray → List Int → Int → Int → Int → Bool → Option (ByteArray)
  | 0, _, _, _, _, _, _ => none
  | k + 1, x0, x3, x4, x5, x6, x27 => if x27 = true then ((some (([92, x6] : List Int) : List Int)).bind fun y390 => (if x3.length + y390.length < 140737488355328 then (spec_Quote.l0 k x0 (x3 ++ y390) (wrap64 (x4 + 1))) else (none))) else (if x5 < 32 then ((spec_digitOf.f (wrap64 (Int.tmod x5 16)) false).bind fun t396 => ((some (([92, 117, 48, 48, (48 + ((Int.tdiv x5 16) % 256)) % 256, t396] : List Int) : List Int)).bind fun y397 => (if x3.length + y397.length < 140737488355328 then (spec_Quote.l0 k x0 (x3 ++ y397) (wrap64 (x4 + 1))) else (none)))) else (if x3.length < 140737488355328 then (spec_Quote.l0 k x0 (x3 ++ [x5]) (wrap64 (x4 + 1))) else (none)))
end
def spec_Quote.f (k : Nat) (a0 : ByteArray) : Option (ByteArray) := spec_Quote.l0 k a0 (([34] : List Int)) 0
theorem spec_Quote.mono_l : ∀ k, (∀ y0 y1 y2, LeO (spec_Quote.l0 k y0 y1 y2) (spec_Quote.l0 (k + 1) y0 y1 y2)) ∧ (∀ y0 y1 y2 y3 y4 y5, LeO (spec_Quote.j1 k y0 y1 y2 y3 y4 y5) (spec_Quote.j1 (k + 1) y0 y1 y2 y3 y4 y5))
  | 0 => ⟨fun _ _ _ r h => by simp [spec_Quote.l0] at h, fun _ _ _ _ _ _ r h => by simp [spec_Quote.j1] at h⟩
  | k + 1 => by
    obtain ⟨ih0, ih1⟩ := spec_Quote.mono_l k
    refine ⟨?_, ?_⟩
    · intro y0 y1 y2
      unfold spec_Quote.l0
      repeat' first
      | (with_reducible exact ih0 _ _ _)
      | (with_reducible exact ih1 _ _ _ _ _ _)
      | (with_reducible exact LeO.refl _)
      | (with_reducible exact LeO.none _)
      | (with_reducible refine LeO.ite ?_ ?_)
      | (with_reducible refine LeO.bind ?_ (fun _ => ?_))
      | exact ih0 _ _ _
      | exact ih1 _ _ _ _ _ _
      | exact LeO.none _
      | refine LeO.ite ?_ ?_
      | refine LeO.bind ?_ (fun _ => ?_)
    · intro y0 y1 y2 y3 y4 y5
      unfold spec_Quote.j1
      repeat' first
      | (with_reducible exact ih0 _ _ _)
      | (with_reducible exact ih1 _ _ _ _ _ _)
      | (with_reducible exact LeO.refl _)
      | (with_reducible exact LeO.none _)
      | (with_reducible refine LeO.ite ?_ ?_)
      | (with_reducible refine LeO.bind ?_ (fun _ => ?_))
      | exact ih0 _ _ _
      | exact ih1 _ _ _ _ _ _
      | exact LeO.none _
      | refine LeO.ite ?_ ?_
      | refine LeO.bind ?_ (fun _ => ?_)
theorem spec_Quote.mono : ∀ a0 k, LeO (spec_Quote.f k a0) (spec_Quote.f (k + 1) a0) := by
  intro a0 k
  obtain ⟨ih0, ih1⟩ := spec_Quote.mono_l k
  unfold spec_Quote.f
  repeat' first
      | (with_reducible exact ih0 _ _ _)
      | (with_reducible exact ih1 _ _ _ _ _ _)
      | (with_reducible exact LeO.refl _)
      | (with_reducible exact LeO.none _)
      | (with_reducible refine LeO.ite ?_ ?_)
      | (with_reducible refine LeO.bind ?_ (fun _ => ?_))
      | exact ih0 _ _ _
      | exact ih1 _ _ _ _ _ _
      | exact LeO.none _
      | refine LeO.ite ?_ ?_
      | refine LeO.bind ?_ (fun _ => ?_)
set_option maxHeartbeats 8000000 in
set_option maxRecDepth 100000 in
theorem spec_Quote.calls (k : Nat) (a0 : ByteArray) (r : ByteArray) (w : World) (h : spec_Quote.f k a0 = some r) :
    Calls Try.prog 18 #[.string a0] w fun e w' => e = .returned (.string r) ∧ Below w.heap.size w w' := by
  have HB := Aside0.mk (Below.refl w.heap.size w)
  have H : (spec_Quote.l0 k a0 (([34] : List Int)) 0) = some r := h
  clear h
  obtain ⟨y382, hy382⟩ : ∃ y_ : List Int, y_ = (([34] : List Int)) := ⟨_, rfl⟩
  replace H : (spec_Quote.l0 k a0 y382 0) = some r := by first | (rw [hy382]; with_reducible exact H) | (have H2_ := (Option.bind_some _ _).symm.trans H; rw [hy382]; with_reducible exact H2_) | (have H2_ := (Option.bind_some _ _).symm.trans H; with_reducible exact H2_) | with_reducible exact H | (rw [hy382]; exact H) | exact H
  have Ny382 := Aside0.mk hy382
  clear hy382
  have H' := Aside0.mk H
  clear H
  go_enter Try.func18, Try.ntmps18
  go_wp2_with (first | ((with_reducible refine gate_dst (N := 8) rfl ?_); refine Kd.R_lit (Kd.int .u8) _ 5 ?hg (N := 8) ?hd (xs := ([34] : List Int)) (inner := [.int .u8 34]) (ok := fun _ => True) (okp := fun _ => True) ?hr ?hp (fun _ hk => hk) trivial (Below.refl _ _) (Nat.le_refl _) (by simp) ?_; (case hd => rfl); (case hg => rfl); (case hr => first | (go_simp; done) | (go_simp; rfl)); (case hp => exact (Reps.one (show Kd.M (Kd.int .u8) _ _ _ 34 [.int .u8 34] from rfl) (Reps.none _ _))); intro v383 w2 ho3 hb hg_ hnew_; clear hg_ hnew_; (first | rw [← Ny382.out] at ho3 | (simp only [Int.reduceToNat] at ho3; rw [← Ny382.out] at ho3)); have n0_ := Aside0.mk (Kd.R_lower ho3 (below_size (by repeat (first | (with_reducible first | exact HB.out | apply below_alloc | apply pw_below_drewN | apply below_drew1) | exact HB.out)))); have n1_ := Aside0.mk (below_step (by repeat (first | (with_reducible first | exact HB.out | apply below_alloc | apply pw_below_drewN | apply below_drew1) | exact HB.out)) hb); clear HB; have HO384 := n0_; have HB := n1_; clear n0_ n1_; clear hb ho3))
  try simp only [Act.put, List.setIfInBounds_toArray, List.set_cons_succ, List.set_cons_zero]
  go_loopg [3, 4] k (fun kq v3 v4 w' => ∃ (x3_1 : List Int) (x4_1 : Int), v4 = .int .i64 x4_1 ∧ Aside0 (spec_Quote.l0 kq a0 x3_1 x4_1 = some r) ∧ Aside0 (kq ≤ k) ∧ Aside0 (Kd.R (Kd.int .u8) 5 w' w.heap.size (fun _ => True) v3 x3_1) ∧ Aside0 (Below w.heap.size w w'))
  case atStart => exact ⟨(y382), (0), (by first | rfl | (simp; done) | (simp [*]; done)), H', ⟨Nat.le_refl _⟩, ⟨by (with_reducible repeat (first | apply Kd.R_alloc | apply Kd.R_drewN | apply Kd.R_drew)); exact HO384.out⟩, ⟨by repeat (first | (with_reducible first | exact HB.out | apply below_alloc | apply pw_below_drewN | apply below_drew1) | exact HB.out)⟩⟩
  case round =>
    clear H'
    try clear c1
    try clear p2
    obtain ⟨x3_1, x4_1, rfl, HA, HK1, HO_3, HB⟩ := hrel
    cases gk with
    | zero => exact absurd HA.out (by simp [spec_Quote.l0])
    | succ k1 =>
      have H := HA.out
      clear HA
      simp only [spec_Quote.l0] at H
      by_cases c4 : x4_1 < (a0.size : Int)
      · rw [if_pos c4] at H
        have c4b0 : decide (x4_1 < (a0.size : Int)) = true := decide_eq_true c4
        clear c4
        by_cases c5 : 0 ≤ x4_1
        · rw [if_pos c5] at H
          have c5b0 : decide (0 ≤ x4_1) = true := decide_eq_true c5
          clear c5
          replace H := Option.bind_eq_some_iff.mp H
          obtain ⟨⟨t388, t389⟩, A70, H⟩ := H
          replace H : (if t389 = true then (spec_Quote.j1 k1 a0 x3_1 x4_1 (bt a0 x4_1) t388 ((bt a0 x4_1) != 47)) else (spec_Quote.j1 k1 a0 x3_1 x4_1 (bt a0 x4_1) t388 false)) = some r := H
          have A7 := Aside0.mk A70
          clear A70
          have HC8 := Aside0.mk H
          clear H
          have p6 : 0 ≤ (x4_1 : Int) := of_decide_eq_true (by first | (with_reducible assumption) | assumption)
          have q6 : x4_1 < (a0.size : Int) := of_decide_eq_true (by first | (with_reducible assumption) | assumption)
          have hx6 := bt_at a0 x4_1
          replace p6 := eq_true p6
          replace q6 := eq_true q6
          go_upto_region 8 with (first | ((with_reducible refine gate_callee (f := 30) rfl ?_); refine goesL_ (some 20) rfl rfl Try.func30 (by kernel_rfl) rfl #[.int .u8 (bt a0 x4_1)] rfl (by (try simp only [List.map_toArray, List.map_cons, List.map_nil]); first | done | rfl | (simp only [List.length_drop, List.length_take]; rfl)) ?_; (with_reducible refine (spec_shortOf.calls (bt a0 x4_1) t388 t389 _ A7.out).mono ?_); rintro e w' ⟨rfl, ⟨nd, rfl⟩⟩; refine ⟨_, rfl, ?_⟩))
          (try simp only [Act.put, List.setIfInBounds_toArray, List.set_cons_zero, List.set_cons_succ])
          go_cut [27] (fun v27 wc => ∃ (kq : Nat) (x27_7 : Bool), v27 = .bool x27_7 ∧ Aside0 (spec_Quote.j1 kq a0 x3_1 x4_1 (bt a0 x4_1) t388 x27_7 = some r) ∧ Aside0 (kq ≤ k1) ∧ Aside0 (Kd.R (Kd.int .u8) 5 wc w.heap.size (fun _ => True) u3 x3_1) ∧ Aside0 (Below w.heap.size w wc))
          case first =>
            have H := HC8.out
            clear HC8
            by_cases c9 : t389 = true
            · subst c9
              have H1 : (spec_Quote.j1 k1 a0 x3_1 x4_1 (bt a0 x4_1) t388 ((bt a0 x4_1) != 47)) = some r := by rw [if_pos rfl] at H; exact H
              clear H
              have H := H1
              clear H1
              have H' := Aside0.mk H
              clear H
              go_wp2
              go_meet
              case rel => exact ⟨_, (((bt a0 x4_1) != 47)), (by first | rfl | (simp; done) | (simp [*]; done)), H', ⟨by have := HK1.out; first | omega | exact Nat.le_refl _⟩, ⟨by (with_reducible repeat (first | apply Kd.R_alloc | apply Kd.R_drewN | apply Kd.R_drew)); exact HO_3.out⟩, ⟨by repeat (first | (with_reducible first | exact HB.out | apply below_alloc | apply pw_below_drewN | apply below_drew1) | exact HB.out)⟩⟩
            · replace c9 := Bool.eq_false_iff.mpr c9
              subst c9
              have H1 : (spec_Quote.j1 k1 a0 x3_1 x4_1 (bt a0 x4_1) t388 false) = some r := by rw [if_neg (show ¬ (false = true) by decide)] at H; exact H
              clear H
              have H := H1
              clear H1
              have H' := Aside0.mk H
              clear H
              go_wp2
              go_meet
              case rel => exact ⟨_, (false), (by first | rfl | (simp; done) | (simp [*]; done)), H', ⟨by have := HK1.out; first | omega | exact Nat.le_refl _⟩, ⟨by (with_reducible repeat (first | apply Kd.R_alloc | apply Kd.R_drewN | apply Kd.R_drew)); exact HO_3.out⟩, ⟨by repeat (first | (with_reducible first | exact HB.out | apply below_alloc | apply pw_below_drewN | apply below_drew1) | exact HB.out)⟩⟩
          case rest =>
            clear HC8
            try clear c1
            try clear p2
            try clear c3
            try clear c4
            try clear c4b0
            try clear c5
            try clear c5b0
            try clear p6
            try clear q6
            try clear hx6
            try clear c9
            try clear p2
            try clear p6
            try clear q6
            obtain ⟨kq, x27_7, rfl, HA, HJ7, HO_3, HB⟩ := hcut
            cases kq with
            | zero => exact absurd HA.out (by simp [spec_Quote.j1])
            | succ kj7 =>
              have H := HA.out
              clear HA
              simp only [spec_Quote.j1] at H
              by_cases c10 : x27_7 = true
              · subst c10
                have H1 : ((some (([92, t388] : List Int) : List Int)).bind fun y390 => (if x3_1.length + y390.length < 140737488355328 then (spec_Quote.l0 kj7 a0 (x3_1 ++ y390) (wrap64 (x4_1 + 1))) else (none))) = some r := by rw [if_pos rfl] at H; exact H
                clear H
                have H := H1
                clear H1
                obtain ⟨y390, hy390⟩ : ∃ y_ : List Int, y_ = (([92, t388] : List Int)) := ⟨_, rfl⟩
                replace H : (if x3_1.length + y390.length < 140737488355328 then (spec_Quote.l0 kj7 a0 (x3_1 ++ y390) (wrap64 (x4_1 + 1))) else (none)) = some r := by first | (rw [hy390]; with_reducible exact H) | (have H2_ := (Option.bind_some _ _).symm.trans H; rw [hy390]; with_reducible exact H2_) | (have H2_ := (Option.bind_some _ _).symm.trans H; with_reducible exact H2_) | with_reducible exact H | (rw [hy390]; exact H) | exact H
                have Ny390 := Aside0.mk hy390
                clear hy390
                by_cases c11 : x3_1.length + y390.length < 140737488355328
                · rw [if_pos c11] at H
                  have LMc11 := Aside0.mk c11
                  clear c11
                  obtain ⟨y393, hy393⟩ : ∃ y_ : List Int, y_ = (x3_1 ++ y390) := ⟨_, rfl⟩
                  replace H : (spec_Quote.l0 kj7 a0 y393 (wrap64 (x4_1 + 1))) = some r := by first | (rw [hy393]; with_reducible exact H) | (have H2_ := (Option.bind_some _ _).symm.trans H; rw [hy393]; with_reducible exact H2_) | (have H2_ := (Option.bind_some _ _).symm.trans H; with_reducible exact H2_) | with_reducible exact H | (rw [hy393]; exact H) | exact H
                  have Ny393 := Aside0.mk hy393
                  clear hy393
                  have H' := Aside0.mk H
                  clear H
                  go_wp2_with (first | ((with_reducible refine gate_dst (N := 35) rfl ?_); refine Kd.R_lit (Kd.int .u8) _ 5 ?hg (N := 35) ?hd (xs := ([92, t388] : List Int)) (inner := [.int .u8 92, .int .u8 t388]) (ok := fun _ => True) (okp := fun _ => True) ?hr ?hp (fun _ hk => hk) trivial (Below.refl _ _) (Nat.le_refl _) (by simp) ?_; (case hd => rfl); (case hg => rfl); (case hr => first | (go_simp; done) | (go_simp; rfl)); (case hp => exact (Reps.one (show Kd.M (Kd.int .u8) _ _ _ 92 [.int .u8 92] from rfl) (Reps.one (show Kd.M (Kd.int .u8) _ _ _ t388 [.int .u8 t388] from rfl) (Reps.none _ _)))); intro v391 w12 ho13 hb hg_ hnew_; clear hg_ hnew_; (first | rw [← Ny390.out] at ho13 | (simp only [Int.reduceToNat] at ho13; rw [← Ny390.out] at ho13)); have n0_ := Aside0.mk (Kd.R_elder' (by (with_reducible repeat (first | apply Kd.R_alloc | apply Kd.R_drewN | apply Kd.R_drew)); exact HO_3.out) (Kd.R_base ho13) hb); have n1_ := Aside0.mk (Kd.R_lower (Kd.R_new' ho13 (Kd.R_lt (by (with_reducible repeat (first | apply Kd.R_alloc | apply Kd.R_drewN | apply Kd.R_drew)); exact HO_3.out))) (below_size (by repeat (first | (with_reducible first | exact HB.out | apply below_alloc | apply pw_below_drewN | apply below_drew1) | exact HB.out)))); have n2_ := Aside0.mk (below_step (by repeat (first | (with_reducible first | exact HB.out | apply below_alloc | apply pw_below_drewN | apply below_drew1) | exact HB.out)) hb); clear HO_3; clear HB; have HO_3 := n0_; have HO392 := n1_; have HB := n2_; clear n0_ n1_ n2_; clear hb ho13; obtain ⟨Ao15, co15, eo15⟩ := Kd.R_slice HO392.out; subst eo15) | ((with_reducible refine gate_builtin (b := .append) (xs := #[.tmp 33, .tmp 35]) rfl ?_); at_builtin; refine Kd.R_append_rows (Kd.int .u8) (w0 := w) w.heap.size rfl (.tmp 33) (.tmp 35) 42 5 (.int .u8 0) 1 rfl Try.underlying42 info5 rfl (by decide) (by omega) u3 x3_1 y390 _ _ _ (fun k_ => some k_ ≠ (.slice Ao15 y390.length co15 : Value).ownBlock) (fun _ => False) rfl rfl ?aO ?aR (fun _ _ h => h) (fun _ h => h.elim) ?aF ?aB ?aS ?aL ?_; (case aR => repeat (first | exact (Kd.R_reads' HO392.out).2.2 | (with_reducible refine Kd.C_alloc ?_ _) | (with_reducible refine Kd.C_drewN ?_ _) | (with_reducible refine Kd.C_drew ?_))); (case aB => exact (by repeat (first | (with_reducible first | exact HB.out | apply below_alloc | apply pw_below_drewN | apply below_drew1) | exact HB.out))); (case aF => exact (fun k_ hk => Kd.fresh' (Kd.R_lt (by (with_reducible repeat (first | apply Kd.R_alloc | apply Kd.R_drewN | apply Kd.R_drew)); exact HO392.out)) k_ hk)); (case aO => exact (by (with_reducible repeat (first | apply Kd.R_alloc | apply Kd.R_drewN | apply Kd.R_drew)); exact Kd.R_mono HO_3.out (fun _ hk => hk.2))); (case aS => exact (below_size (by repeat (first | (with_reducible first | exact HB.out | apply below_alloc | apply pw_below_drewN | apply below_drew1) | exact HB.out)))); (case aL => have := LMc11.out; omega); intro v394 w14 ho hb hg hat; rw [← Ny393.out] at ho; have n0_ := Aside0.mk (Kd.R_after (ok := (fun _ => True)) (by (with_reducible repeat (first | apply Kd.R_alloc | apply Kd.R_drewN | apply Kd.R_drew)); exact HO392.out) hg hat); have n1_ := Aside0.mk (hb); have n2_ := Aside0.mk (ho); clear HO392; clear HB; clear HO_3; have HO392 := n0_; have HB := n1_; have HO395 := n2_; clear n0_ n1_ n2_; clear ho hb hg hat))
                  go_roundg kj7
                  case measure => have := HK1.out; have := HJ7.out; omega
                  case rel => exact ⟨(y393), (wrap64 (x4_1 + 1)), (by first | rfl | (simp; done) | (simp [*]; done)), H', ⟨by have := HK1.out; have := HJ7.out; omega⟩, ⟨by (with_reducible repeat (first | apply Kd.R_alloc | apply Kd.R_drewN | apply Kd.R_drew)); exact Kd.R_mono HO395.out (fun _ hk => trivial)⟩, ⟨by repeat (first | (with_reducible first | exact HB.out | apply below_alloc | apply pw_below_drewN | apply below_drew1) | exact HB.out)⟩⟩
                · rw [if_neg c11] at H
                  exact absurd H (by simp)
              · replace c10 := Bool.eq_false_iff.mpr c10
                subst c10
                have H1 : (if (bt a0 x4_1) < 32 then ((spec_digitOf.f (wrap64 (Int.tmod (bt a0 x4_1) 16)) false).bind fun t396 => ((some (([92, 117, 48, 48, (48 + ((Int.tdiv (bt a0 x4_1) 16) % 256)) % 256, t396] : List Int) : List Int)).bind fun y397 => (if x3_1.length + y397.length < 140737488355328 then (spec_Quote.l0 kj7 a0 (x3_1 ++ y397) (wrap64 (x4_1 + 1))) else (none)))) else (if x3_1.length < 140737488355328 then (spec_Quote.l0 kj7 a0 (x3_1 ++ [(bt a0 x4_1)]) (wrap64 (x4_1 + 1))) else (none))) = some r := by rw [if_neg (show ¬ (false = true) by decide)] at H; exact H
                clear H
                have H := H1
                clear H1
                by_cases c16 : (bt a0 x4_1) < 32
                · rw [if_pos c16] at H
                  have c16b0 : decide ((bt a0 x4_1) < 32) = true := decide_eq_true c16
                  clear c16
                  replace H := Option.bind_eq_some_iff.mp H
                  obtain ⟨t396, A170, H⟩ := H
                  replace H : ((some (([92, 117, 48, 48, (48 + ((Int.tdiv (bt a0 x4_1) 16) % 256)) % 256, t396] : List Int) : List Int)).bind fun y397 => (if x3_1.length + y397.length < 140737488355328 then (spec_Quote.l0 kj7 a0 (x3_1 ++ y397) (wrap64 (x4_1 + 1))) else (none))) = some r := H
                  have A17 := Aside0.mk A170
                  clear A170
                  obtain ⟨y397, hy397⟩ : ∃ y_ : List Int, y_ = (([92, 117, 48, 48, (48 + ((Int.tdiv (bt a0 x4_1) 16) % 256)) % 256, t396] : List Int)) := ⟨_, rfl⟩
                  replace H : (if x3_1.length + y397.length < 140737488355328 then (spec_Quote.l0 kj7 a0 (x3_1 ++ y397) (wrap64 (x4_1 + 1))) else (none)) = some r := by first | (rw [hy397]; with_reducible exact H) | (have H2_ := (Option.bind_some _ _).symm.trans H; rw [hy397]; with_reducible exact H2_) | (have H2_ := (Option.bind_some _ _).symm.trans H; with_reducible exact H2_) | with_reducible exact H | (rw [hy397]; exact H) | exact H
                  have Ny397 := Aside0.mk hy397
                  clear hy397
                  by_cases c18 : x3_1.length + y397.length < 140737488355328
                  · rw [if_pos c18] at H
                    have LMc18 := Aside0.mk c18
                    clear c18
                    obtain ⟨y400, hy400⟩ : ∃ y_ : List Int, y_ = (x3_1 ++ y397) := ⟨_, rfl⟩
                    replace H : (spec_Quote.l0 kj7 a0 y400 (wrap64 (x4_1 + 1))) = some r := by first | (rw [hy400]; with_reducible exact H) | (have H2_ := (Option.bind_some _ _).symm.trans H; rw [hy400]; with_reducible exact H2_) | (have H2_ := (Option.bind_some _ _).symm.trans H; with_reducible exact H2_) | with_reducible exact H | (rw [hy400]; exact H) | exact H
                    have Ny400 := Aside0.mk hy400
                    clear hy400
                    have H' := Aside0.mk H
                    clear H
                    go_wp2_with (first | ((with_reducible refine gate_callee (f := 31) rfl ?_); refine goesL_ (some 47) rfl rfl Try.func31 (by kernel_rfl) rfl #[.int .i64 (wrap64 (Int.tmod (bt a0 x4_1) 16)), .bool false] rfl (by (try simp only [List.map_toArray, List.map_cons, List.map_nil]); first | done | rfl | (simp only [List.length_drop, List.length_take]; rfl)) ?_; (with_reducible refine (spec_digitOf.calls (wrap64 (Int.tmod (bt a0 x4_1) 16)) false t396 _ A17.out).mono ?_); rintro e w' ⟨rfl, ⟨nd, rfl⟩⟩; refine ⟨_, rfl, ?_⟩) | ((with_reducible refine gate_dst (N := 48) rfl ?_); refine Kd.R_lit (Kd.int .u8) _ 5 ?hg (N := 48) ?hd (xs := ([92, 117, 48, 48, (48 + ((Int.tdiv (bt a0 x4_1) 16) % 256)) % 256, t396] : List Int)) (inner := [.int .u8 92, .int .u8 117, .int .u8 48, .int .u8 48, .int .u8 ((48 + ((Int.tdiv (bt a0 x4_1) 16) % 256)) % 256), .int .u8 t396]) (ok := fun _ => True) (okp := fun _ => True) ?hr ?hp (fun _ hk => hk) trivial (Below.refl _ _) (Nat.le_refl _) (by simp) ?_; (case hd => rfl); (case hg => rfl); (case hr => first | (go_simp; done) | (go_simp; rfl)); (case hp => exact (Reps.one (show Kd.M (Kd.int .u8) _ _ _ 92 [.int .u8 92] from rfl) (Reps.one (show Kd.M (Kd.int .u8) _ _ _ 117 [.int .u8 117] from rfl) (Reps.one (show Kd.M (Kd.int .u8) _ _ _ 48 [.int .u8 48] from rfl) (Reps.one (show Kd.M (Kd.int .u8) _ _ _ 48 [.int .u8 48] from rfl) (Reps.one (show Kd.M (Kd.int .u8) _ _ _ ((48 + ((Int.tdiv (bt a0 x4_1) 16) % 256)) % 256) [.int .u8 ((48 + ((Int.tdiv (bt a0 x4_1) 16) % 256)) % 256)] from rfl) (Reps.one (show Kd.M (Kd.int .u8) _ _ _ t396 [.int .u8 t396] from rfl) (Reps.none _ _)))))))); intro v398 w19 ho20 hb hg_ hnew_; clear hg_ hnew_; (first | rw [← Ny397.out] at ho20 | (simp only [Int.reduceToNat] at ho20; rw [← Ny397.out] at ho20)); have n0_ := Aside0.mk (Kd.R_elder' (by (with_reducible repeat (first | apply Kd.R_alloc | apply Kd.R_drewN | apply Kd.R_drew)); exact HO_3.out) (Kd.R_base ho20) hb); have n1_ := Aside0.mk (Kd.R_lower (Kd.R_new' ho20 (Kd.R_lt (by (with_reducible repeat (first | apply Kd.R_alloc | apply Kd.R_drewN | apply Kd.R_drew)); exact HO_3.out))) (below_size (by repeat (first | (with_reducible first | exact HB.out | apply below_alloc | apply pw_below_drewN | apply below_drew1) | exact HB.out)))); have n2_ := Aside0.mk (below_step (by repeat (first | (with_reducible first | exact HB.out | apply below_alloc | apply pw_below_drewN | apply below_drew1) | exact HB.out)) hb); clear HO_3; clear HB; have HO_3 := n0_; have HO399 := n1_; have HB := n2_; clear n0_ n1_ n2_; clear hb ho20; obtain ⟨Ao22, co22, eo22⟩ := Kd.R_slice HO399.out; subst eo22) | ((with_reducible refine gate_builtin (b := .append) (xs := #[.tmp 40, .tmp 48]) rfl ?_); at_builtin; refine Kd.R_append_rows (Kd.int .u8) (w0 := w) w.heap.size rfl (.tmp 40) (.tmp 48) 42 5 (.int .u8 0) 1 rfl Try.underlying42 info5 rfl (by decide) (by omega) u3 x3_1 y397 _ _ _ (fun k_ => some k_ ≠ (.slice Ao22 y397.length co22 : Value).ownBlock) (fun _ => False) rfl rfl ?aO ?aR (fun _ _ h => h) (fun _ h => h.elim) ?aF ?aB ?aS ?aL ?_; (case aR => repeat (first | exact (Kd.R_reads' HO399.out).2.2 | (with_reducible refine Kd.C_alloc ?_ _) | (with_reducible refine Kd.C_drewN ?_ _) | (with_reducible refine Kd.C_drew ?_))); (case aB => exact (by repeat (first | (with_reducible first | exact HB.out | apply below_alloc | apply pw_below_drewN | apply below_drew1) | exact HB.out))); (case aF => exact (fun k_ hk => Kd.fresh' (Kd.R_lt (by (with_reducible repeat (first | apply Kd.R_alloc | apply Kd.R_drewN | apply Kd.R_drew)); exact HO399.out)) k_ hk)); (case aO => exact (by (with_reducible repeat (first | apply Kd.R_alloc | apply Kd.R_drewN | apply Kd.R_drew)); exact Kd.R_mono HO_3.out (fun _ hk => hk.2))); (case aS => exact (below_size (by repeat (first | (with_reducible first | exact HB.out | apply below_alloc | apply pw_below_drewN | apply below_drew1) | exact HB.out)))); (case aL => have := LMc18.out; omega); intro v401 w21 ho hb hg hat; rw [← Ny400.out] at ho; have n0_ := Aside0.mk (Kd.R_after (ok := (fun _ => True)) (by (with_reducible repeat (first | apply Kd.R_alloc | apply Kd.R_drewN | apply Kd.R_drew)); exact HO399.out) hg hat); have n1_ := Aside0.mk (hb); have n2_ := Aside0.mk (ho); clear HO399; clear HB; clear HO_3; have HO399 := n0_; have HB := n1_; have HO402 := n2_; clear n0_ n1_ n2_; clear ho hb hg hat))
                    go_roundg kj7
                    case measure => have := HK1.out; have := HJ7.out; omega
                    case rel => exact ⟨(y400), (wrap64 (x4_1 + 1)), (by first | rfl | (simp; done) | (simp [*]; done)), H', ⟨by have := HK1.out; have := HJ7.out; omega⟩, ⟨by (with_reducible repeat (first | apply Kd.R_alloc | apply Kd.R_drewN | apply Kd.R_drew)); exact Kd.R_mono HO402.out (fun _ hk => trivial)⟩, ⟨by repeat (first | (with_reducible first | exact HB.out | apply below_alloc | apply pw_below_drewN | apply below_drew1) | exact HB.out)⟩⟩
                  · rw [if_neg c18] at H
                    exact absurd H (by simp)
                · rw [if_neg c16] at H
                  have c16b0 : decide ((bt a0 x4_1) < 32) = false := decide_eq_false c16
                  clear c16
                  by_cases c23 : x3_1.length < 140737488355328
                  · rw [if_pos c23] at H
                    have LMc23 := Aside0.mk c23
                    clear c23
                    obtain ⟨y403, hy403⟩ : ∃ y_ : List Int, y_ = (x3_1 ++ [(bt a0 x4_1)]) := ⟨_, rfl⟩
                    replace H : (spec_Quote.l0 kj7 a0 y403 (wrap64 (x4_1 + 1))) = some r := by first | (rw [hy403]; with_reducible exact H) | (have H2_ := (Option.bind_some _ _).symm.trans H; rw [hy403]; with_reducible exact H2_) | (have H2_ := (Option.bind_some _ _).symm.trans H; with_reducible exact H2_) | with_reducible exact H | (rw [hy403]; exact H) | exact H
                    have Ny403 := Aside0.mk hy403
                    clear hy403
                    have H' := Aside0.mk H
                    clear H
                    go_wp2_with (first | ((with_reducible refine gate_builtin (b := .append) (xs := #[.tmp 23, .tmp 25]) rfl ?_); at_builtin; refine Kd.R_append (Kd.int .u8) (w0 := w) w.heap.size rfl (.tmp 23) (.tmp 25) 42 5 (.int .u8 0) 1 rfl Try.underlying42 info5 rfl (by decide) (by omega) u3 x3_1 (bt a0 x4_1) [.int .u8 (bt a0 x4_1)] (fun _ => True) (fun _ => False) rfl rfl ?aP (fun _ hk => hk.elim) ?aF ?aO ?aB ?aS ?aL ?_; (case aP => exact rfl); (case aB => exact (by repeat (first | (with_reducible first | exact HB.out | apply below_alloc | apply pw_below_drewN | apply below_drew1) | exact HB.out))); (case aF => exact (fun _ _ => trivial)); (case aO => exact (by (with_reducible repeat (first | apply Kd.R_alloc | apply Kd.R_drewN | apply Kd.R_drew)); exact HO_3.out)); (case aS => exact (below_size (by repeat (first | (with_reducible first | exact HB.out | apply below_alloc | apply pw_below_drewN | apply below_drew1) | exact HB.out)))); (case aL => have := LMc23.out; omega); intro v404 w24 ho hb hg hat; rw [← Ny403.out] at ho; have n0_ := Aside0.mk (hb); have n1_ := Aside0.mk (ho); clear HB; clear HO_3; have HB := n0_; have HO405 := n1_; clear n0_ n1_; clear ho hb hg hat))
                    go_roundg kj7
                    case measure => have := HK1.out; have := HJ7.out; omega
                    case rel => exact ⟨(y403), (wrap64 (x4_1 + 1)), (by first | rfl | (simp; done) | (simp [*]; done)), H', ⟨by have := HK1.out; have := HJ7.out; omega⟩, ⟨by (with_reducible repeat (first | apply Kd.R_alloc | apply Kd.R_drewN | apply Kd.R_drew)); exact HO405.out⟩, ⟨by repeat (first | (with_reducible first | exact HB.out | apply below_alloc | apply pw_below_drewN | apply below_drew1) | exact HB.out)⟩⟩
                  · rw [if_neg c23] at H
                    exact absurd H (by simp)
        · rw [if_neg c5] at H
          exact absurd H (by simp)
      · rw [if_neg c4] at H
        have c4b0 : decide (x4_1 < (a0.size : Int)) = false := decide_eq_false c4
        clear c4
        by_cases c25 : x3_1.length < 140737488355328
        · rw [if_pos c25] at H
          have LMc25 := Aside0.mk c25
          clear c25
          obtain ⟨y385, hy385⟩ : ∃ y_ : List Int, y_ = (x3_1 ++ [34]) := ⟨_, rfl⟩
          replace H : (some (strOfNums y385)) = some r := by first | (rw [hy385]; with_reducible exact H) | (have H2_ := (Option.bind_some _ _).symm.trans H; rw [hy385]; with_reducible exact H2_) | (have H2_ := (Option.bind_some _ _).symm.trans H; with_reducible exact H2_) | with_reducible exact H | (rw [hy385]; exact H) | exact H
          have Ny385 := Aside0.mk hy385
          clear hy385
          obtain rfl := Option.some.inj H
          go_wp2_with (first | ((with_reducible refine gate_builtin (b := .append) (xs := #[.tmp 50, .tmp 51]) rfl ?_); at_builtin; refine Kd.R_append (Kd.int .u8) (w0 := w) w.heap.size rfl (.tmp 50) (.tmp 51) 42 5 (.int .u8 0) 1 rfl Try.underlying42 info5 rfl (by decide) (by omega) u3 x3_1 34 [.int .u8 34] (fun _ => True) (fun _ => False) rfl rfl ?aP (fun _ hk => hk.elim) ?aF ?aO ?aB ?aS ?aL ?_; (case aP => exact rfl); (case aB => exact (by repeat (first | (with_reducible first | exact HB.out | apply below_alloc | apply pw_below_drewN | apply below_drew1) | exact HB.out))); (case aF => exact (fun _ _ => trivial)); (case aO => exact (by (with_reducible repeat (first | apply Kd.R_alloc | apply Kd.R_drewN | apply Kd.R_drew)); exact HO_3.out)); (case aS => exact (below_size (by repeat (first | (with_reducible first | exact HB.out | apply below_alloc | apply pw_below_drewN | apply below_drew1) | exact HB.out)))); (case aL => have := LMc25.out; omega); intro v386 w26 ho hb hg hat; rw [← Ny385.out] at ho; have n0_ := Aside0.mk (hb); have n1_ := Aside0.mk (ho); clear HB; clear HO_3; have HB := n0_; have HO387 := n1_; clear n0_ n1_; clear ho hb hg hat; have hcv27 := own_string (P := Try.prog) Try.underlying42 Try.underlying5 Try.underlying9 (Kd.own_of_R HO387.out)))
          go_ret
          exact ⟨by first | rfl | (simp [errW_none, errW_some] <;> rfl) | (simp [*, errW_none, errW_some] <;> rfl), by repeat (first | (with_reducible first | exact HB.out | apply below_alloc | apply pw_below_drewN | apply below_drew1) | exact HB.out)⟩
        · rw [if_neg c25] at H
          exact absurd H (by simp)

end Go.Proofs.Ytdndddembndnhaa.PA
