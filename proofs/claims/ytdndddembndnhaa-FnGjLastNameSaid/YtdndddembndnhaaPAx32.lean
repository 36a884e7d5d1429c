-- Written by a program of this session out of the translation (a changed copy of the kit's print); Lean checks it.
import Derived.Test.YtdndddembndnhaaPAx0
import Derived.Test.YtdndddembndnhaaPAx31
namespace Go.Proofs.Ytdndddembndnhaa.PA
open Go.RowKit Go.Proofs.YtdndddembndnhaaW.PrintWords Go.Proofs.YtdndddembndnhaaW.PrintLast Go.Proofs.YtdndddembndnhaaW.PrintMore
attribute [local go_sem] max2_int min2_int max_two min_two max_three min_three max_four min_four   -- for this text's walks alone
set_option linter.unusedVariables false
set_option linter.unusedSimpArgs false

/-! ### spec_PathOf: function 10 -/
mutual
def spec_PathOf.l0 : Nat → List Int → List ByteArray → Int → Int → Option (ByteArray)
  | 0, _, _, _, _ => none
  | k + 1, x3, x7, x8, x9 => if x9 < x8 then (if 0 ≤ x9 then (if x9 < (x7.length : Int) then (if x9 > 0 then (if x3.length < 140737488355328 then (spec_PathOf.j1 k (x3 ++ [46]) (rdOf ByteArray.empty x7 x9) x7 x8 x9) else (none)) else (spec_PathOf.j1 k x3 (rdOf ByteArray.empty x7 x9) x7 x8 x9)) else (none)) else (none)) else (some (strOfNums x3))
def spec_PathOf.j1 : Nat → List Int → ByteArray → List ByteArray → Int → Int → Option (ByteArray)
  | 0, _, _, _, _, _ => none
  | k + 1, x3, x5, x7, x8, x9 => spec_PathOf.l1 k x3 x5 0 x7 x8 x9
def spec_PathOf.l1 : Nat → List Int → ByteArray → Int → List ByteArray → Int → Int → Option (ByteArray)
  | 0, _, _, _, _, _, _ => none
  | k + 1, x3, x5, x6, x7, x8, x9 => if x6 < (x5.size : Int) then (if 0 ≤ x6 then ((spec_pathByte.f (bt x5 x6)).bind fun t357 => (if t357 = true then (if x3.length < 140737488355328 then (spec_PathOf.l1 k (x3 ++ [bt x5 x6]) x5 (wrap64 (x6 + 1)) x7 x8 x9) else (none)) else (if x3.length < 140737488355328 then ((some (x3 ++ [92] : List Int)).bind fun y361 => (if y361.length < 140737488355328 then (spec_PathOf.l1 k (y361 ++ [bt x5 x6]) x5 (wrap64 (x6 + 1)) x7 x8 x9) else (none))) else (none)))) else (none)) else (spec_PathOf.l0 k x3 x7 x8 (wrap64 (x9 + 1)))
end
def spec_PathOf.f (k : Nat) (l0 : List ByteArray) : Option (ByteArray) := spec_PathOf.l0 k ([] : List Int) l0 (l0.length : Int) 0
theorem spec_PathOf.mono_l : ∀ k, (∀ y0 y1 y2 y3, LeO (spec_PathOf.l0 k y0 y1 y2 y3) (spec_PathOf.l0 (k + 1) y0 y1 y2 y3)) ∧ (∀ y0 y1 y2 y3 y4, LeO (spec_PathOf.j1 k y0 y1 y2 y3 y4) (spec_PathOf.j1 (k + 1) y0 y1 y2 y3 y4)) ∧ (∀ y0 y1 y2 y3 y4 y5, LeO (spec_PathOf.l1 k y0 y1 y2 y3 y4 y5) (spec_PathOf.l1 (k + 1) y0 y1 y2 y3 y4 y5))
  | 0 => ⟨fun _ _ _ _ r h => by simp [spec_PathOf.l0] at h, fun _ _ _ _ _ r h => by simp [spec_PathOf.j1] at h, fun _ _ _ _ _ _ r h => by simp [spec_PathOf.l1] at h⟩
  | k + 1 => by
    obtain ⟨ih0, ih1, ih2⟩ := spec_PathOf.mono_l k
    refine ⟨?_, ?_, ?_⟩
    · intro y0 y1 y2 y3
      unfold spec_PathOf.l0
      repeat' first
      | (with_reducible exact ih0 _ _ _ _)
      | (with_reducible exact ih1 _ _ _ _ _)
      | (with_reducible exact ih2 _ _ _ _ _ _)
      | (with_reducible exact LeO.refl _)
      | (with_reducible exact LeO.none _)
      | (with_reducible refine LeO.ite ?_ ?_)
      | (with_reducible refine LeO.bind ?_ (fun _ => ?_))
      | exact ih0 _ _ _ _
      | exact ih1 _ _ _ _ _
      | exact ih2 _ _ _ _ _ _
      | exact LeO.none _
      | refine LeO.ite ?_ ?_
      | refine LeO.bind ?_ (fun _ => ?_)
    · intro y0 y1 y2 y3 y4
      unfold spec_PathOf.j1
      repeat' first
      | (with_reducible exact ih0 _ _ _ _)
      | (with_reducible exact ih1 _ _ _ _ _)
      | (with_reducible exact ih2 _ _ _ _ _ _)
      | (with_reducible exact LeO.refl _)
      | (with_reducible exact LeO.none _)
      | (with_reducible refine LeO.ite ?_ ?_)
      | (with_reducible refine LeO.bind ?_ (fun _ => ?_))
      | exact ih0 _ _ _ _
      | exact ih1 _ _ _ _ _
      | exact ih2 _ _ _ _ _ _
      | exact LeO.none _
      | refine LeO.ite ?_ ?_
      | refine LeO.bind ?_ (fun _ => ?_)
    · intro y0 y1 y2 y3 y4 y5
      unfold spec_PathOf.l1
      repeat' first
      | (with_reducible exact ih0 _ _ _ _)
      | (with_reducible exact ih1 _ _ _ _ _)
      | (with_reducible exact ih2 _ _ _ _ _ _)
      | (with_reducible exact LeO.refl _)
      | (with_reducible exact LeO.none _)
      | (with_reducible refine LeO.ite ?_ ?_)
      | (with_reducible refine LeO.bind ?_ (fun _ => ?_))
      | exact ih0 _ _ _ _
      | exact ih1 _ _ _ _ _
      | exact ih2 _ _ _ _ _ _
      | exact LeO.none _
      | refine LeO.ite ?_ ?_
      | refine LeO.bind ?_ (fun _ => ?_)
theorem spec_PathOf.mono : ∀ a0 k, LeO (spec_PathOf.f k a0) (spec_PathOf.f (k + 1) a0) := by
  intro a0 k
  obtain ⟨ih0, ih1, ih2⟩ := spec_PathOf.mono_l k
  unfold spec_PathOf.f
  repeat' first
      | (with_reducible exact ih0 _ _ _ _)
      | (with_reducible exact ih1 _ _ _ _ _)
      | (with_reducible exact ih2 _ _ _ _ _ _)
      | (with_reducible exact LeO.refl _)
      | (with_reducible exact LeO.none _)
      | (with_reducible refine LeO.ite ?_ ?_)
      | (with_reducible refine LeO.bind ?_ (fun _ => ?_))
      | exact ih0 _ _ _ _
      | exact ih1 _ _ _ _ _
      | exact ih2 _ _ _ _ _ _
      | exact LeO.none _
      | refine LeO.ite ?_ ?_
      | refine LeO.bind ?_ (fun _ => ?_)
set_option maxHeartbeats 8000000 in
set_option maxRecDepth 100000 in
theorem spec_PathOf.calls (k : Nat) (A0 : Option Addr) (c0 : Nat) (l0 : List ByteArray) (r : ByteArray) (w : World) (hr0 : Kd.C Kd.string w A0 l0.length l0) (hc0 : l0.length ≤ c0) (h : spec_PathOf.f k l0 = some r) :
    Calls Try.prog 10 #[.slice A0 l0.length c0] w fun e w' => e = .returned (.string r) ∧ Below w.heap.size w w' := by
  have HR0 := Aside0.mk hr0
  have HC0 := Aside0.mk hc0
  clear hr0 hc0
  have HB := Aside0.mk (Below.refl w.heap.size w)
  have H : (spec_PathOf.l0 k ([] : List Int) l0 (l0.length : Int) 0) = some r := h
  clear h
  have H' := Aside0.mk H
  clear H
  go_enter Try.func10, Try.ntmps10
  go_wp2
  try simp only [Act.put, List.setIfInBounds_toArray, List.set_cons_succ, List.set_cons_zero]
  go_loopg [3, 9] k (fun kq v3 v9 w' => ∃ (x3_1 : List Int) (x9_1 : Int), v9 = .int .i64 x9_1 ∧ Aside0 (spec_PathOf.l0 kq x3_1 l0 (l0.length : Int) x9_1 = some r) ∧ Aside0 (kq ≤ k) ∧ Aside0 (Kd.R (Kd.int .u8) 5 w' w.heap.size (fun _ => True) v3 x3_1) ∧ Aside0 (Below w.heap.size w w'))
  case atStart => exact ⟨(([] : List Int)), (0), (by first | rfl | (simp; done) | (simp [*]; done)), H', ⟨Nat.le_refl _⟩, ⟨by first | exact Kd.R_nil _ _ _ _ _ | exact Kd.N_nil _ _ _ _ _ | exact Kd.V_nil _ _ _ _ _ | exact Kd.Q_nil _ _ _ _ _ | exact Kd.S_nil _ _ _ _ _⟩, ⟨by repeat (first | (with_reducible first | exact HB.out | apply below_alloc | apply pw_below_drewN | apply below_drew1) | exact HB.out)⟩⟩
  case round =>
    clear H'
    try clear c1
    obtain ⟨x3_1, x9_1, rfl, HA, HK1, HO_3, HB⟩ := hrel
    cases gk with
    | zero => exact absurd HA.out (by simp [spec_PathOf.l0])
    | succ k1 =>
      have H := HA.out
      clear HA
      simp only [spec_PathOf.l0] at H
      by_cases c2 : x9_1 < (l0.length : Int)
      · rw [if_pos c2] at H
        have c2b0 : decide (x9_1 < (l0.length : Int)) = true := decide_eq_true c2
        clear c2
        by_cases c3 : 0 ≤ x9_1
        · rw [if_pos c3] at H
          have c3b0 : decide (0 ≤ x9_1) = true := decide_eq_true c3
          clear c3
          by_cases c4 : x9_1 < (l0.length : Int)
          · rw [if_pos c4] at H
            have c4b0 : decide (x9_1 < (l0.length : Int)) = true := decide_eq_true c4
            clear c4
            have HC5 := Aside0.mk H
            clear H
            have p353 : 0 ≤ (x9_1 : Int) := of_decide_eq_true (by first | (with_reducible assumption) | assumption)
            have q353 : x9_1 < (l0.length : Int) := of_decide_eq_true (by first | (with_reducible assumption) | assumption)
            obtain ⟨ad353, e353, hx353_0⟩ := Kd.at_string HR0.out x9_1 p353 q353
            cases e353
            replace hx353_0 := (HB.out.cell (World.block_lt_of_cell? w _ hx353_0)).trans hx353_0
            replace p353 := eq_true p353
            replace q353 := eq_true q353
            go_upto_if 15 with (fail)
            go_cut [3] (fun v3 wc => ∃ (kq : Nat) (x3_4 : List Int), Aside0 (spec_PathOf.j1 kq x3_4 (rdOf ByteArray.empty l0 x9_1) l0 (l0.length : Int) x9_1 = some r) ∧ Aside0 (kq ≤ k1) ∧ Aside0 (Kd.R (Kd.int .u8) 5 wc w.heap.size (fun _ => True) v3 x3_4) ∧ Aside0 (Below w.heap.size w wc))
            case first =>
              have H := HC5.out
              clear HC5
              by_cases c6 : x9_1 > 0
              · rw [if_pos c6] at H
                have c6b0 : decide (0 < x9_1) = true := decide_eq_true c6
                clear c6
                (first | rw [c6b0] | (simp only [i64_w, i32_w]; rw [c6b0]) | skip)
                by_cases c7 : x3_1.length < 140737488355328
                · rw [if_pos c7] at H
                  have LMc7 := Aside0.mk c7
                  clear c7
                  obtain ⟨y354, hy354⟩ : ∃ y_ : List Int, y_ = (x3_1 ++ [46]) := ⟨_, rfl⟩
                  replace H : (spec_PathOf.j1 k1 y354 (rdOf ByteArray.empty l0 x9_1) l0 (l0.length : Int) x9_1) = some r := by first | (rw [hy354]; with_reducible exact H) | (have H2_ := (Option.bind_some _ _).symm.trans H; rw [hy354]; with_reducible exact H2_) | (have H2_ := (Option.bind_some _ _).symm.trans H; with_reducible exact H2_) | with_reducible exact H | (rw [hy354]; exact H) | exact H
                  have Ny354 := Aside0.mk hy354
                  clear hy354
                  have H' := Aside0.mk H
                  clear H
                  go_wp2_with (first | ((with_reducible refine gate_builtin (b := .append) (xs := #[.tmp 16, .tmp 17]) rfl ?_); at_builtin; refine Kd.R_append (Kd.int .u8) (w0 := w) w.heap.size rfl (.tmp 16) (.tmp 17) 42 5 (.int .u8 0) 1 rfl Try.underlying42 info5 rfl (by decide) (by omega) u3 x3_1 46 [.int .u8 46] (fun _ => True) (fun _ => False) rfl rfl ?aP (fun _ hk => hk.elim) ?aF ?aO ?aB ?aS ?aL ?_; (case aP => exact rfl); (case aB => exact (by repeat (first | (with_reducible first | exact HB.out | apply below_alloc | apply pw_below_drewN | apply below_drew1) | exact HB.out))); (case aF => exact (fun _ _ => trivial)); (case aO => exact (by (with_reducible repeat (first | apply Kd.R_alloc | apply Kd.R_drewN | apply Kd.R_drew)); exact HO_3.out)); (case aS => exact (below_size (by repeat (first | (with_reducible first | exact HB.out | apply below_alloc | apply pw_below_drewN | apply below_drew1) | exact HB.out)))); (case aL => have := LMc7.out; omega); intro v355 w8 ho hb hg hat; rw [← Ny354.out] at ho; have n0_ := Aside0.mk (hb); have n1_ := Aside0.mk (ho); clear HB; clear HO_3; have HB := n0_; have HO356 := n1_; clear n0_ n1_; clear ho hb hg hat))
                  go_meet
                  case rel => exact ⟨_, (y354), H', ⟨by have := HK1.out; first | omega | exact Nat.le_refl _⟩, ⟨by (with_reducible repeat (first | apply Kd.R_alloc | apply Kd.R_drewN | apply Kd.R_drew)); exact HO356.out⟩, ⟨by repeat (first | (with_reducible first | exact HB.out | apply below_alloc | apply pw_below_drewN | apply below_drew1) | exact HB.out)⟩⟩
                · rw [if_neg c7] at H
                  exact absurd H (by simp)
              · rw [if_neg c6] at H
                have c6b0 : decide (0 < x9_1) = false := decide_eq_false c6
                clear c6
                (first | rw [c6b0] | (simp only [i64_w, i32_w]; rw [c6b0]) | skip)
                have H' := Aside0.mk H
                clear H
                go_wp2
                go_meet
                case rel => exact ⟨_, (x3_1), H', ⟨by have := HK1.out; first | omega | exact Nat.le_refl _⟩, ⟨by (with_reducible repeat (first | apply Kd.R_alloc | apply Kd.R_drewN | apply Kd.R_drew)); exact HO_3.out⟩, ⟨by repeat (first | (with_reducible first | exact HB.out | apply below_alloc | apply pw_below_drewN | apply below_drew1) | exact HB.out)⟩⟩
            case rest =>
              clear HC5
              try clear c1
              try clear c2
              try clear c2b0
              try clear p2
              try clear c3
              try clear c3b0
              try clear p3
              try clear q3
              try clear hx3
              try clear c4
              try clear c4b0
              try clear c6
              try clear c6b0
              try clear c7
              try clear hx353_0
              try clear p353
              try clear q353
              obtain ⟨kq, x3_4, HA, HJ4, HO_3, HB⟩ := hcut
              cases kq with
              | zero => exact absurd HA.out (by simp [spec_PathOf.j1])
              | succ kj4 =>
                have H := HA.out
                clear HA
                simp only [spec_PathOf.j1] at H
                have H' := Aside0.mk H
                clear H
                go_wp2
                try simp only [Act.put, List.setIfInBounds_toArray, List.set_cons_succ, List.set_cons_zero]
                go_loopg [3, 6] kj4 (fun kq v3 v6 w' => ∃ (x3_3 : List Int) (x6_3 : Int), v6 = .int .i64 x6_3 ∧ Aside0 (spec_PathOf.l1 kq x3_3 (rdOf ByteArray.empty l0 x9_1) x6_3 l0 (l0.length : Int) x9_1 = some r) ∧ Aside0 (kq ≤ kj4) ∧ Aside0 (Kd.R (Kd.int .u8) 5 w' w.heap.size (fun _ => True) v3 x3_3) ∧ Aside0 (Below w.heap.size w w'))
                case atStart => exact ⟨(x3_4), (0), (by first | rfl | (simp; done) | (simp [*]; done)), H', ⟨Nat.le_refl _⟩, ⟨by (with_reducible repeat (first | apply Kd.R_alloc | apply Kd.R_drewN | apply Kd.R_drew)); exact HO_3.out⟩, ⟨by repeat (first | (with_reducible first | exact HB.out | apply below_alloc | apply pw_below_drewN | apply below_drew1) | exact HB.out)⟩⟩
                case round =>
                  clear H'
                  try clear c1
                  try clear c2
                  try clear c2b0
                  try clear p2
                  try clear c3
                  try clear c3b0
                  try clear p3
                  try clear q3
                  try clear hx3
                  try clear c4
                  try clear c4b0
                  try clear c6
                  try clear c6b0
                  try clear c7
                  try clear hx353_0
                  try clear p2
                  try clear p3
                  try clear p353
                  try clear q3
                  try clear q353
                  obtain ⟨x3_3, x6_3, rfl, HA, HK3, HO_3, HB⟩ := hrel
                  cases gk with
                  | zero => exact absurd HA.out (by simp [spec_PathOf.l1])
                  | succ k3 =>
                    have H := HA.out
                    clear HA
                    simp only [spec_PathOf.l1] at H
                    by_cases c9 : x6_3 < ((rdOf ByteArray.empty l0 x9_1).size : Int)
                    · rw [if_pos c9] at H
                      have c9b0 : decide (x6_3 < ((rdOf ByteArray.empty l0 x9_1).size : Int)) = true := decide_eq_true c9
                      clear c9
                      by_cases c10 : 0 ≤ x6_3
                      · rw [if_pos c10] at H
                        have c10b0 : decide (0 ≤ x6_3) = true := decide_eq_true c10
                        clear c10
                        replace H := Option.bind_eq_some_iff.mp H
                        obtain ⟨t357, A120, H⟩ := H
                        replace H : (if t357 = true then (if x3_3.length < 140737488355328 then (spec_PathOf.l1 k3 (x3_3 ++ [bt (rdOf ByteArray.empty l0 x9_1) x6_3]) (rdOf ByteArray.empty l0 x9_1) (wrap64 (x6_3 + 1)) l0 (l0.length : Int) x9_1) else (none)) else (if x3_3.length < 140737488355328 then ((some (x3_3 ++ [92] : List Int)).bind fun y361 => (if y361.length < 140737488355328 then (spec_PathOf.l1 k3 (y361 ++ [bt (rdOf ByteArray.empty l0 x9_1) x6_3]) (rdOf ByteArray.empty l0 x9_1) (wrap64 (x6_3 + 1)) l0 (l0.length : Int) x9_1) else (none))) else (none))) = some r := H
                        have A12 := Aside0.mk A120
                        clear A120
                        by_cases c13 : t357 = true
                        · subst c13
                          have H1 : (if x3_3.length < 140737488355328 then (spec_PathOf.l1 k3 (x3_3 ++ [bt (rdOf ByteArray.empty l0 x9_1) x6_3]) (rdOf ByteArray.empty l0 x9_1) (wrap64 (x6_3 + 1)) l0 (l0.length : Int) x9_1) else (none)) = some r := by rw [if_pos rfl] at H; exact H
                          clear H
                          have H := H1
                          clear H1
                          by_cases c15 : x3_3.length < 140737488355328
                          · rw [if_pos c15] at H
                            have LMc15 := Aside0.mk c15
                            clear c15
                            obtain ⟨y358, hy358⟩ : ∃ y_ : List Int, y_ = (x3_3 ++ [bt (rdOf ByteArray.empty l0 x9_1) x6_3]) := ⟨_, rfl⟩
                            replace H : (spec_PathOf.l1 k3 y358 (rdOf ByteArray.empty l0 x9_1) (wrap64 (x6_3 + 1)) l0 (l0.length : Int) x9_1) = some r := by first | (rw [hy358]; with_reducible exact H) | (have H2_ := (Option.bind_some _ _).symm.trans H; rw [hy358]; with_reducible exact H2_) | (have H2_ := (Option.bind_some _ _).symm.trans H; with_reducible exact H2_) | with_reducible exact H | (rw [hy358]; exact H) | exact H
                            have Ny358 := Aside0.mk hy358
                            clear hy358
                            have H' := Aside0.mk H
                            clear H
                            have p11 : 0 ≤ (x6_3 : Int) := of_decide_eq_true (by first | (with_reducible assumption) | assumption)
                            have q11 : x6_3 < ((rdOf ByteArray.empty l0 x9_1).size : Int) := of_decide_eq_true (by first | (with_reducible assumption) | assumption)
                            have hx11 := bt_at (rdOf ByteArray.empty l0 x9_1) x6_3
                            replace p11 := eq_true p11
                            replace q11 := eq_true q11
                            go_wp2_with (first | ((with_reducible refine gate_callee (f := 22) rfl ?_); refine goesL_ (some 28) rfl rfl Try.func22 (by kernel_rfl) rfl #[.int .u8 (bt (rdOf ByteArray.empty l0 x9_1) x6_3)] rfl (by (try simp only [List.map_toArray, List.map_cons, List.map_nil]); first | done | rfl | (simp only [List.length_drop, List.length_take]; rfl)) ?_; (with_reducible refine (spec_pathByte.calls (bt (rdOf ByteArray.empty l0 x9_1) x6_3) true _ A12.out).mono ?_); rintro e w' ⟨rfl, ⟨nd, rfl⟩⟩; refine ⟨_, rfl, ?_⟩; have p14 : 0 ≤ (x6_3 : Int) := of_decide_eq_true (by first | (with_reducible assumption) | assumption); have q14 : x6_3 < ((rdOf ByteArray.empty l0 x9_1).size : Int) := of_decide_eq_true (by first | (with_reducible assumption) | assumption); have hx14 := bt_at (rdOf ByteArray.empty l0 x9_1) x6_3; replace p14 := eq_true p14; replace q14 := eq_true q14) | ((with_reducible refine gate_builtin (b := .append) (xs := #[.tmp 33, .tmp 37]) rfl ?_); at_builtin; refine Kd.R_append (Kd.int .u8) (w0 := w) w.heap.size rfl (.tmp 33) (.tmp 37) 42 5 (.int .u8 0) 1 rfl Try.underlying42 info5 rfl (by decide) (by omega) u3 x3_3 (bt (rdOf ByteArray.empty l0 x9_1) x6_3) [.int .u8 (bt (rdOf ByteArray.empty l0 x9_1) x6_3)] (fun _ => True) (fun _ => False) rfl rfl ?aP (fun _ hk => hk.elim) ?aF ?aO ?aB ?aS ?aL ?_; (case aP => exact rfl); (case aB => exact (by repeat (first | (with_reducible first | exact HB.out | apply below_alloc | apply pw_below_drewN | apply below_drew1) | exact HB.out))); (case aF => exact (fun _ _ => trivial)); (case aO => exact (by (with_reducible repeat (first | apply Kd.R_alloc | apply Kd.R_drewN | apply Kd.R_drew)); exact HO_3.out)); (case aS => exact (below_size (by repeat (first | (with_reducible first | exact HB.out | apply below_alloc | apply pw_below_drewN | apply below_drew1) | exact HB.out)))); (case aL => have := LMc15.out; omega); intro v359 w16 ho hb hg hat; rw [← Ny358.out] at ho; have n0_ := Aside0.mk (hb); have n1_ := Aside0.mk (ho); clear HB; clear HO_3; have HB := n0_; have HO360 := n1_; clear n0_ n1_; clear ho hb hg hat))
                            go_roundg k3
                            case measure => have := HK1.out; have := HJ4.out; have := HK3.out; omega
                            case rel => exact ⟨(y358), (wrap64 (x6_3 + 1)), (by first | rfl | (simp; done) | (simp [*]; done)), H', ⟨by have := HK1.out; have := HJ4.out; have := HK3.out; omega⟩, ⟨by (with_reducible repeat (first | apply Kd.R_alloc | apply Kd.R_drewN | apply Kd.R_drew)); exact HO360.out⟩, ⟨by repeat (first | (with_reducible first | exact HB.out | apply below_alloc | apply pw_below_drewN | apply below_drew1) | exact HB.out)⟩⟩
                          · rw [if_neg c15] at H
                            exact absurd H (by simp)
                        · replace c13 := Bool.eq_false_iff.mpr c13
                          subst c13
                          have H1 : (if x3_3.length < 140737488355328 then ((some (x3_3 ++ [92] : List Int)).bind fun y361 => (if y361.length < 140737488355328 then (spec_PathOf.l1 k3 (y361 ++ [bt (rdOf ByteArray.empty l0 x9_1) x6_3]) (rdOf ByteArray.empty l0 x9_1) (wrap64 (x6_3 + 1)) l0 (l0.length : Int) x9_1) else (none))) else (none)) = some r := by rw [if_neg (show ¬ (false = true) by decide)] at H; exact H
                          clear H
                          have H := H1
                          clear H1
                          by_cases c17 : x3_3.length < 140737488355328
                          · rw [if_pos c17] at H
                            have LMc17 := Aside0.mk c17
                            clear c17
                            obtain ⟨y361, hy361⟩ : ∃ y_ : List Int, y_ = (x3_3 ++ [92]) := ⟨_, rfl⟩
                            replace H : (if y361.length < 140737488355328 then (spec_PathOf.l1 k3 (y361 ++ [bt (rdOf ByteArray.empty l0 x9_1) x6_3]) (rdOf ByteArray.empty l0 x9_1) (wrap64 (x6_3 + 1)) l0 (l0.length : Int) x9_1) else (none)) = some r := by first | (rw [hy361]; with_reducible exact H) | (have H2_ := (Option.bind_some _ _).symm.trans H; rw [hy361]; with_reducible exact H2_) | (have H2_ := (Option.bind_some _ _).symm.trans H; with_reducible exact H2_) | with_reducible exact H | (rw [hy361]; exact H) | exact H
                            have Ny361 := Aside0.mk hy361
                            clear hy361
                            by_cases c19 : y361.length < 140737488355328
                            · rw [if_pos c19] at H
                              have LMc19 := Aside0.mk c19
                              clear c19
                              obtain ⟨y364, hy364⟩ : ∃ y_ : List Int, y_ = (y361 ++ [bt (rdOf ByteArray.empty l0 x9_1) x6_3]) := ⟨_, rfl⟩
                              replace H : (spec_PathOf.l1 k3 y364 (rdOf ByteArray.empty l0 x9_1) (wrap64 (x6_3 + 1)) l0 (l0.length : Int) x9_1) = some r := by first | (rw [hy364]; with_reducible exact H) | (have H2_ := (Option.bind_some _ _).symm.trans H; rw [hy364]; with_reducible exact H2_) | (have H2_ := (Option.bind_some _ _).symm.trans H; with_reducible exact H2_) | with_reducible exact H | (rw [hy364]; exact H) | exact H
                              have Ny364 := Aside0.mk hy364
                              clear hy364
                              have H' := Aside0.mk H
                              clear H
                              have p11 : 0 ≤ (x6_3 : Int) := of_decide_eq_true (by first | (with_reducible assumption) | assumption)
                              have q11 : x6_3 < ((rdOf ByteArray.empty l0 x9_1).size : Int) := of_decide_eq_true (by first | (with_reducible assumption) | assumption)
                              have hx11 := bt_at (rdOf ByteArray.empty l0 x9_1) x6_3
                              replace p11 := eq_true p11
                              replace q11 := eq_true q11
                              go_wp2_with (first | ((with_reducible refine gate_callee (f := 22) rfl ?_); refine goesL_ (some 28) rfl rfl Try.func22 (by kernel_rfl) rfl #[.int .u8 (bt (rdOf ByteArray.empty l0 x9_1) x6_3)] rfl (by (try simp only [List.map_toArray, List.map_cons, List.map_nil]); first | done | rfl | (simp only [List.length_drop, List.length_take]; rfl)) ?_; (with_reducible refine (spec_pathByte.calls (bt (rdOf ByteArray.empty l0 x9_1) x6_3) false _ A12.out).mono ?_); rintro e w' ⟨rfl, ⟨nd, rfl⟩⟩; refine ⟨_, rfl, ?_⟩) | ((with_reducible refine gate_builtin (b := .append) (xs := #[.tmp 30, .tmp 31]) rfl ?_); at_builtin; refine Kd.R_append (Kd.int .u8) (w0 := w) w.heap.size rfl (.tmp 30) (.tmp 31) 42 5 (.int .u8 0) 1 rfl Try.underlying42 info5 rfl (by decide) (by omega) u3 x3_3 92 [.int .u8 92] (fun _ => True) (fun _ => False) rfl rfl ?aP (fun _ hk => hk.elim) ?aF ?aO ?aB ?aS ?aL ?_; (case aP => exact rfl); (case aB => exact (by repeat (first | (with_reducible first | exact HB.out | apply below_alloc | apply pw_below_drewN | apply below_drew1) | exact HB.out))); (case aF => exact (fun _ _ => trivial)); (case aO => exact (by (with_reducible repeat (first | apply Kd.R_alloc | apply Kd.R_drewN | apply Kd.R_drew)); exact HO_3.out)); (case aS => exact (below_size (by repeat (first | (with_reducible first | exact HB.out | apply below_alloc | apply pw_below_drewN | apply below_drew1) | exact HB.out)))); (case aL => have := LMc17.out; omega); intro v362 w20 ho hb hg hat; rw [← Ny361.out] at ho; have n0_ := Aside0.mk (hb); have n1_ := Aside0.mk (ho); clear HB; clear HO_3; have HB := n0_; have HO363 := n1_; clear n0_ n1_; clear ho hb hg hat; have p18 : 0 ≤ (x6_3 : Int) := of_decide_eq_true (by first | (with_reducible assumption) | assumption); have q18 : x6_3 < ((rdOf ByteArray.empty l0 x9_1).size : Int) := of_decide_eq_true (by first | (with_reducible assumption) | assumption); have hx18 := bt_at (rdOf ByteArray.empty l0 x9_1) x6_3; replace p18 := eq_true p18; replace q18 := eq_true q18) | ((with_reducible refine gate_builtin (b := .append) (xs := #[.tmp 33, .tmp 37]) rfl ?_); at_builtin; refine Kd.R_append (Kd.int .u8) (w0 := w) w.heap.size rfl (.tmp 33) (.tmp 37) 42 5 (.int .u8 0) 1 rfl Try.underlying42 info5 rfl (by decide) (by omega) v362 y361 (bt (rdOf ByteArray.empty l0 x9_1) x6_3) [.int .u8 (bt (rdOf ByteArray.empty l0 x9_1) x6_3)] (fun _ => True) (fun _ => False) rfl rfl ?aP (fun _ hk => hk.elim) ?aF ?aO ?aB ?aS ?aL ?_; (case aP => exact rfl); (case aB => exact (by repeat (first | (with_reducible first | exact HB.out | apply below_alloc | apply pw_below_drewN | apply below_drew1) | exact HB.out))); (case aF => exact (fun _ _ => trivial)); (case aO => exact (by (with_reducible repeat (first | apply Kd.R_alloc | apply Kd.R_drewN | apply Kd.R_drew)); exact HO363.out)); (case aS => exact (below_size (by repeat (first | (with_reducible first | exact HB.out | apply below_alloc | apply pw_below_drewN | apply below_drew1) | exact HB.out)))); (case aL => have := LMc19.out; omega); intro v365 w21 ho hb hg hat; rw [← Ny364.out] at ho; have n0_ := Aside0.mk (hb); have n1_ := Aside0.mk (ho); clear HB; clear HO363; have HB := n0_; have HO366 := n1_; clear n0_ n1_; clear ho hb hg hat))
                              go_roundg k3
                              case measure => have := HK1.out; have := HJ4.out; have := HK3.out; omega
                              case rel => exact ⟨(y364), (wrap64 (x6_3 + 1)), (by first | rfl | (simp; done) | (simp [*]; done)), H', ⟨by have := HK1.out; have := HJ4.out; have := HK3.out; omega⟩, ⟨by (with_reducible repeat (first | apply Kd.R_alloc | apply Kd.R_drewN | apply Kd.R_drew)); exact HO366.out⟩, ⟨by repeat (first | (with_reducible first | exact HB.out | apply below_alloc | apply pw_below_drewN | apply below_drew1) | exact HB.out)⟩⟩
                            · rw [if_neg c19] at H
                              exact absurd H (by simp)
                          · rw [if_neg c17] at H
                            exact absurd H (by simp)
                      · rw [if_neg c10] at H
                        exact absurd H (by simp)
                    · rw [if_neg c9] at H
                      have c9b0 : decide (x6_3 < ((rdOf ByteArray.empty l0 x9_1).size : Int)) = false := decide_eq_false c9
                      clear c9
                      have H' := Aside0.mk H
                      clear H
                      go_wp2
                      go_roundg k3
                      case measure => have := HK1.out; have := HJ4.out; have := HK3.out; omega
                      case rel => exact ⟨(x3_3), (wrap64 (x9_1 + 1)), (by first | rfl | (simp; done) | (simp [*]; done)), H', ⟨by have := HK1.out; have := HJ4.out; have := HK3.out; omega⟩, ⟨by (with_reducible repeat (first | apply Kd.R_alloc | apply Kd.R_drewN | apply Kd.R_drew)); exact HO_3.out⟩, ⟨by repeat (first | (with_reducible first | exact HB.out | apply below_alloc | apply pw_below_drewN | apply below_drew1) | exact HB.out)⟩⟩
          · rw [if_neg c4] at H
            exact absurd H (by simp)
        · rw [if_neg c3] at H
          exact absurd H (by simp)
      · rw [if_neg c2] at H
        have c2b0 : decide (x9_1 < (l0.length : Int)) = false := decide_eq_false c2
        clear c2
        obtain rfl := Option.some.inj H
        have hcv22 := own_string (P := Try.prog) Try.underlying42 Try.underlying5 Try.underlying9 (Kd.own_of_R HO_3.out)
        go_wp2
        go_ret
        exact ⟨by first | rfl | (simp [errW_none, errW_some] <;> rfl) | (simp [*, errW_none, errW_some] <;> rfl), by repeat (first | (with_reducible first | exact HB.out | apply below_alloc | apply pw_below_drewN | apply below_drew1) | exact HB.out)⟩

end Go.Proofs.Ytdndddembndnhaa.PA
