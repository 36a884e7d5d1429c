/- Texts of this claim put together: PRx11, PRx12, PRx13, PRx14, PRx15, PRx16, PRx17, PRx18, PRx19, PRx20, HFjA. -/
import Derived.Test.YtnajijaachgipaaDoorB0
import Derived.Test.YtnajijaachgipaaDoorB1
import Derived.Test.YtnajijaachgipaaDoorChecked
import Derived.WalkLawsBesides
import Derived.RegionTactic
import Derived.BigQuiet
import Derived.Deep.QuietTactic
import Derived.OwnWalk
import Derived.Lib.AtoiErrMem
import Derived.Lib.AppendZeros
section
namespace Go.Proofs.YtnajijaachgipaaDoor.PR
open Go.RowKit Go.Proofs.YtnajijaachgipaaDoorW.PrintWords Go.Proofs.YtnajijaachgipaaDoorW.PrintLast Go.Proofs.YtnajijaachgipaaDoorW.PrintMore
attribute [local go_sem] max2_int min2_int max_two min_two max_three min_three max_four min_four   -- for this text's walks alone
set_option linter.unusedVariables false
set_option linter.unusedSimpArgs false
def spec_fjList.Stmt (k : Nat) : Prop := ∀ (a0 : ByteArray) (a1 : Int) (r1 : Int) (r2 : ByteArray) (r3 : List ByteArray) (r4 : Bool) (r5 : List (S30)) (r6 : ByteArray) (r7 : Bool) (w : World) (h : spec_fjList.f k a0 a1 = some (r1, r2, r3, r4, r5, r6, r7)),
  Calls Tryd.prog 43 #[.string a0, .int .i64 a1] w fun e w' => ∃ v2_ v4_ : Value, e = .returned (.tuple #[.agg #[.int .i64 r1, .string r2, v2_, .bool r4, v4_], .string r6, .bool r7]) ∧ Kd.R Kd.string 9 w' w.heap.size (fun _ => True) v2_ r3 ∧ Kd.R k30 30 w' w.heap.size (fun k_ => some k_ ≠ (v2_ : Value).ownBlock) v4_ r5 ∧ Below w.heap.size w w'
def spec_BeginFj.Stmt (k : Nat) : Prop := ∀ (a0 : ByteArray) (a1 : Int) (r1 : Int) (r2 : ByteArray) (r3 : List ByteArray) (r4 : Bool) (r5 : List (S30)) (r6 : ByteArray) (r7 : Bool) (w : World) (h : spec_BeginFj.f k a0 a1 = some (r1, r2, r3, r4, r5, r6, r7)),
  Calls Tryd.prog 25 #[.string a0, .int .i64 a1] w fun e w' => ∃ v2_ v4_ : Value, e = .returned (.tuple #[.agg #[.int .i64 r1, .string r2, v2_, .bool r4, v4_], .string r6, .bool r7]) ∧ Kd.R Kd.string 9 w' w.heap.size (fun _ => True) v2_ r3 ∧ Kd.R k30 30 w' w.heap.size (fun k_ => some k_ ≠ (v2_ : Value).ownBlock) v4_ r5 ∧ Below w.heap.size w w'
theorem spec_BeginFj.scc (k : Nat) : spec_fjList.Stmt k ∧ spec_BeginFj.Stmt k := by
 induction k using Nat.strongRecOn with
 | _ k ih =>
 exact ⟨spec_fjList.calls_scc k (fun j hj => (ih j hj).1) (fun j hj => (ih j hj).2), spec_BeginFj.calls_scc k (fun j hj => (ih j hj).1) (fun j hj => (ih j hj).2)⟩
theorem spec_fjList.calls (k : Nat) : ∀ (a0 : ByteArray) (a1 : Int) (r1 : Int) (r2 : ByteArray) (r3 : List ByteArray) (r4 : Bool) (r5 : List (S30)) (r6 : ByteArray) (r7 : Bool) (w : World) (h : spec_fjList.f k a0 a1 = some (r1, r2, r3, r4, r5, r6, r7)),
  Calls Tryd.prog 43 #[.string a0, .int .i64 a1] w fun e w' => ∃ v2_ v4_ : Value, e = .returned (.tuple #[.agg #[.int .i64 r1, .string r2, v2_, .bool r4, v4_], .string r6, .bool r7]) ∧ Kd.R Kd.string 9 w' w.heap.size (fun _ => True) v2_ r3 ∧ Kd.R k30 30 w' w.heap.size (fun k_ => some k_ ≠ (v2_ : Value).ownBlock) v4_ r5 ∧ Below w.heap.size w w' := (spec_BeginFj.scc k).1
theorem spec_BeginFj.calls (k : Nat) : ∀ (a0 : ByteArray) (a1 : Int) (r1 : Int) (r2 : ByteArray) (r3 : List ByteArray) (r4 : Bool) (r5 : List (S30)) (r6 : ByteArray) (r7 : Bool) (w : World) (h : spec_BeginFj.f k a0 a1 = some (r1, r2, r3, r4, r5, r6, r7)),
  Calls Tryd.prog 25 #[.string a0, .int .i64 a1] w fun e w' => ∃ v2_ v4_ : Value, e = .returned (.tuple #[.agg #[.int .i64 r1, .string r2, v2_, .bool r4, v4_], .string r6, .bool r7]) ∧ Kd.R Kd.string 9 w' w.heap.size (fun _ => True) v2_ r3 ∧ Kd.R k30 30 w' w.heap.size (fun k_ => some k_ ≠ (v2_ : Value).ownBlock) v4_ r5 ∧ Below w.heap.size w w' := (spec_BeginFj.scc k).2
end Go.Proofs.YtnajijaachgipaaDoor.PR
end
section
namespace Go.Proofs.YtnajijaachgipaaDoor.PR
open Go.RowKit Go.Proofs.YtnajijaachgipaaDoorW.PrintWords Go.Proofs.YtnajijaachgipaaDoorW.PrintLast Go.Proofs.YtnajijaachgipaaDoorW.PrintMore
attribute [local go_sem] max2_int min2_int max_two min_two max_three min_three max_four min_four   -- for this text's walks alone
set_option linter.unusedVariables false
set_option linter.unusedSimpArgs false
/-! ### spec_ReadFj: function 11 -/
def spec_ReadFj.f (k : Nat) (a0 : ByteArray) : Option (Int × ByteArray × List ByteArray × Bool × (List (S30)) × Bool) := (spec_skipped.f k a0).bind fun t153 => ((spec_BeginFj.f k t153 0).bind fun bt154 => (if bt154.2.2.2.2.2.2 = true then ((spec_skipped.f k bt154.2.2.2.2.2.1).bind fun t166 => (some (bt154.1, bt154.2.1, bt154.2.2.1, bt154.2.2.2.1, bt154.2.2.2.2.1, (t166.toList == ([] : List UInt8))))) else (some (bt154.1, bt154.2.1, bt154.2.2.1, bt154.2.2.2.1, bt154.2.2.2.2.1, false))))
theorem spec_ReadFj.mono : ∀ a0 k, LeO (spec_ReadFj.f k a0) (spec_ReadFj.f (k + 1) a0) := by
 intro a0 k
 unfold spec_ReadFj.f
 repeat' first
   | (with_reducible exact spec_BeginFj.mono _ _ _)
   | (with_reducible exact spec_skipped.mono _ _)
   | (with_reducible exact LeO.refl _)
   | (with_reducible exact LeO.none _)
   | (with_reducible refine LeO.ite ?_ ?_)
   | (with_reducible refine LeO.bind ?_ (fun _ => ?_))
   | exact spec_BeginFj.mono _ _ _
   | exact spec_skipped.mono _ _
   | exact LeO.none _
   | refine LeO.ite ?_ ?_
   | refine LeO.bind ?_ (fun _ => ?_)
def spec_ReadFj.T2 : Bool × List (List Nat × List Nat) := (true, [([], []), ([], []), ([1], [1]), ([2], [2]), ([3, 2, 2], [2, 3]), ([4, 2], [2, 4]), ([2, 5], [2, 5]), ([0, 4, 0], [0]), ([6, 7, 0, 1, 2, 3, 4, 5, 6, 7], [6])])
def spec_ReadFj.B2 : List Nat := [0, 0, 2, 6, 14, 30, 62, 31, 255]
theorem spec_ReadFj.tab2 : rtab .any (opsOf Tryd.f11 2) = spec_ReadFj.T2 := by kernel_rfl
theorem spec_ReadFj.bits2 : waitsOk spec_ReadFj.T2.2 spec_ReadFj.B2 = true := by kernel_rfl
set_option maxHeartbeats 8000000 in
set_option maxRecDepth 100000 in
theorem spec_ReadFj.calls (k : Nat) (a0 : ByteArray) (r1 : Int) (r2 : ByteArray) (r3 : List ByteArray) (r4 : Bool) (r5 : List (S30)) (r6 : Bool) (w : World) (h : spec_ReadFj.f k a0 = some (r1, r2, r3, r4, r5, r6)) :
  Calls Tryd.prog 11 #[.string a0] w fun e w' => ∃ v2_ v4_ : Value, e = .returned (.tuple #[.agg #[.int .i64 r1, .string r2, v2_, .bool r4, v4_], .bool r6]) ∧ Kd.R Kd.string 9 w' w.heap.size (fun _ => True) v2_ r3 ∧ Kd.R k30 30 w' w.heap.size (fun k_ => some k_ ≠ (v2_ : Value).ownBlock) v4_ r5 ∧ Below w.heap.size w w' := by
 have hu30 := Tryd.underlying30
 have HB := Aside0.mk (Below.refl w.heap.size w)
 have H : ((spec_skipped.f k a0).bind fun t153 => ((spec_BeginFj.f k t153 0).bind fun bt154 => (if bt154.2.2.2.2.2.2 = true then ((spec_skipped.f k bt154.2.2.2.2.2.1).bind fun t166 => (some (bt154.1, bt154.2.1, bt154.2.2.1, bt154.2.2.2.1, bt154.2.2.2.2.1, (t166.toList == ([] : List UInt8))))) else (some (bt154.1, bt154.2.1, bt154.2.2.1, bt154.2.2.2.1, bt154.2.2.2.2.1, false))))) = some (r1, r2, r3, r4, r5, r6) := h
 clear h
 replace H := Option.bind_eq_some_iff.mp H
 obtain ⟨t153, A20, H⟩ := H
 replace H : ((spec_BeginFj.f k t153 0).bind fun bt154 => (if bt154.2.2.2.2.2.2 = true then ((spec_skipped.f k bt154.2.2.2.2.2.1).bind fun t166 => (some (bt154.1, bt154.2.1, bt154.2.2.1, bt154.2.2.2.1, bt154.2.2.2.2.1, (t166.toList == ([] : List UInt8))))) else (some (bt154.1, bt154.2.1, bt154.2.2.1, bt154.2.2.2.1, bt154.2.2.2.2.1, false)))) = some (r1, r2, r3, r4, r5, r6) := H
 have A2 := Aside0.mk A20
 clear A20
 replace H := Option.bind_eq_some_iff.mp H
 obtain ⟨⟨t154, t155, t156, t159, t160, t163, t164⟩, A30, H⟩ := H
 replace H : (if t164 = true then ((spec_skipped.f k t163).bind fun t166 => (some (t154, t155, t156, t159, t160, (t166.toList == ([] : List UInt8))))) else (some (t154, t155, t156, t159, t160, false))) = some (r1, r2, r3, r4, r5, r6) := H
 have A3 := Aside0.mk A30
 clear A30
 by_cases c4 : t164 = true
 ·subst c4
  have H1 : ((spec_skipped.f k t163).bind fun t166 => (some (t154, t155, t156, t159, t160, (t166.toList == ([] : List UInt8))))) = some (r1, r2, r3, r4, r5, r6) := by rw [if_pos rfl] at H; exact H
  clear H
  have H := H1
  clear H1
  replace H := Option.bind_eq_some_iff.mp H
  obtain ⟨t166, A50, H⟩ := H
  replace H : (some (t154, t155, t156, t159, t160, (t166.toList == ([] : List UInt8)))) = some (r1, r2, r3, r4, r5, r6) := H
  have A5 := Aside0.mk A50
  clear A50
  simp only [Option.some.injEq, Prod.mk.injEq] at H
  obtain ⟨rfl, rfl, rfl, rfl, rfl, rfl⟩ := H
  go_enter Tryd.func11, Tryd.ntmps11
  try go_wp2_with (first | ((with_reducible refine gate_dst (N := 2) rfl ?_); refine box_event ?hg (N := 2) ?hd (cs := #[.int .i64 0, .string (⟨#[]⟩ : ByteArray), .slice none 0 0, .bool false, .slice none 0 0]) (t := 30) ?hr ?_; (case hd => rfl); (case hg => rfl); (case hr => first | (go_simp; done) | (go_simp; rfl)); intro gb152 hg w6 hbox hb; have n0_ := Aside0.mk (below_step (by repeat (first | (with_reducible first | exact HB.out | apply below_alloc | apply pw_below_drewN | apply below_drew1) | exact HB.out)) hb); have n1_ := Aside0.mk (hbox); have n2_ := Aside0.mk ((by rw [hg]; exact (below_size (by repeat (first | (with_reducible first | exact HB.out | apply below_alloc | apply pw_below_drewN | apply below_drew1) | exact HB.out))) : w.heap.size ≤ gb152)); have n3_ := Aside0.mk ((by rw [hg]; exact (below_size (by repeat (first | (with_reducible first | exact HB.out | apply below_alloc | apply pw_below_drewN | apply below_drew1) | exact HB.out))) : w.heap.size ≤ gb152)); clear HB; have HB := n0_; have BK152 := n1_; have GW152 := n2_; have GE152 := n3_; clear n0_ n1_ n2_ n3_; clear hb hbox hg) | ((with_reducible refine gate_callee (f := 26) rfl ?_); refine goesL_ (some 9) rfl rfl Tryd.func26 (by kernel_rfl) rfl #[.string a0] rfl (by (try simp only [List.map_toArray, List.map_cons, List.map_nil]); first | done | rfl | (simp only [List.length_drop, List.length_take]; rfl)) ?_; (with_reducible refine (spec_skipped.calls k a0 t153 _ A2.out).mono ?_); rintro e w' ⟨rfl, ⟨nd, rfl⟩⟩; refine ⟨_, rfl, ?_⟩; (try (rw [drewN_self w6]; generalize hq_ : World.drewN w6 _ = w6; have n0_ : Aside0 (w6.heap[gb152]? = some (.cells #[.int .i64 0, .string (⟨#[]⟩ : ByteArray), .slice none 0 0, .bool false, .slice none 0 0] 30 (0, 0))) := ⟨by rw [← hq_]; exact (by (with_reducible repeat (first | refine blk_drewN ?_ _ | refine blk_drew ?_ | refine blk_alloc ?_ _)); exact BK152.out)⟩; have n1_ : Aside0 (Below w.heap.size w w6) := ⟨by rw [← hq_]; exact (by repeat (first | (with_reducible first | exact HB.out | apply below_alloc | apply pw_below_drewN | apply below_drew1 | refine below_set ?_ GE152.out) | exact HB.out))⟩; clear BK152 HB hq_; have BK152 := n0_; have HB := n1_; clear n0_ n1_))) | ((with_reducible refine gate_callee (f := 25) rfl ?_); refine goesL_ (some 10) rfl rfl Tryd.func25 (by kernel_rfl) rfl #[.string t153, .int .i64 0] rfl (by (try simp only [List.map_toArray, List.map_cons, List.map_nil]); first | done | rfl | (simp only [List.length_drop, List.length_take]; rfl)) ?_; (with_reducible refine (spec_BeginFj.calls k t153 0 t154 t155 t156 t159 t160 t163 true _ A3.out).mono ?_); rintro e w7 ⟨v157, v161, rfl, ho0, ho1, hb⟩; refine ⟨_, rfl, ?_⟩; have n0_ := Aside0.mk (Kd.R_lower ho0 (below_size (by repeat (first | (with_reducible first | exact HB.out | apply below_alloc | apply pw_below_drewN | apply below_drew1 | refine below_set ?_ GE152.out) | exact HB.out)))); have n1_ := Aside0.mk (Kd.R_lower (Kd.R_newB ho1 (g := gb152) (o := .cells #[.int .i64 0, .string (⟨#[]⟩ : ByteArray), .slice none 0 0, .bool false, .slice none 0 0] 30 (0, 0)) (by (with_reducible repeat (first | refine blk_drewN ?_ _ | refine blk_drew ?_ | refine blk_alloc ?_ _)); exact BK152.out)) (below_size (by repeat (first | (with_reducible first | exact HB.out | apply below_alloc | apply pw_below_drewN | apply below_drew1 | refine below_set ?_ GE152.out) | exact HB.out)))); have n2_ := Aside0.mk (blk_below (g := gb152) (o := .cells #[.int .i64 0, .string (⟨#[]⟩ : ByteArray), .slice none 0 0, .bool false, .slice none 0 0] 30 (0, 0)) (by (with_reducible repeat (first | refine blk_drewN ?_ _ | refine blk_drew ?_ | refine blk_alloc ?_ _)); exact BK152.out) hb); have n3_ := Aside0.mk (below_step (by repeat (first | (with_reducible first | exact HB.out | apply below_alloc | apply pw_below_drewN | apply below_drew1 | refine below_set ?_ GE152.out) | exact HB.out)) hb); clear BK152; clear HB; have HO158 := n0_; have HO162 := n1_; have BK152 := n2_; have HB := n3_; clear n0_ n1_ n2_ n3_; (try clear hb); (try clear hb2); (try clear hk); (try clear hi); (try clear ho0); (try clear ho1)) | ((with_reducible refine gate_dst (N := 4) rfl ?_); refine box_event ?hg (N := 4) ?hd (cs := #[.int .i64 0, .string (⟨#[]⟩ : ByteArray), .slice none 0 0, .bool false, .slice none 0 0]) (t := 30) ?hr ?_; (case hd => rfl); (case hg => rfl); (case hr => first | (go_simp; done) | (go_simp; rfl)); intro gb165 hg w8 hbox hb; have n0_ := Aside0.mk (Kd.R_below (by (with_reducible repeat (first | apply Kd.R_alloc | apply Kd.R_drewN | apply Kd.R_drew)); exact HO158.out) hb); have n1_ := Aside0.mk (Kd.R_below (Kd.R_elderB (by (with_reducible repeat (first | apply Kd.R_alloc | apply Kd.R_drewN | apply Kd.R_drew)); exact HO162.out) gb165 (Nat.le_of_eq hg.symm)) hb); have n2_ := Aside0.mk (blk_below (g := gb152) (o := .cells #[.int .i64 0, .string (⟨#[]⟩ : ByteArray), .slice none 0 0, .bool false, .slice none 0 0] 30 (0, 0)) (by (with_reducible repeat (first | refine blk_drewN ?_ _ | refine blk_drew ?_ | refine blk_alloc ?_ _)); exact BK152.out) hb); have n3_ := Aside0.mk (below_step (by repeat (first | (with_reducible first | exact HB.out | apply below_alloc | apply pw_below_drewN | apply below_drew1 | refine below_set ?_ GE152.out) | exact HB.out)) hb); have n4_ := Aside0.mk (hbox); have n5_ := Aside0.mk ((by rw [hg]; exact (below_size (by repeat (first | (with_reducible first | exact HB.out | apply below_alloc | apply pw_below_drewN | apply below_drew1 | refine below_set ?_ GE152.out) | exact HB.out))) : w.heap.size ≤ gb165)); have n6_ := Aside0.mk ((by rw [hg]; exact (below_size (by repeat (first | (with_reducible first | exact HB.out | apply below_alloc | apply pw_below_drewN | apply below_drew1 | refine below_set ?_ GE152.out) | exact HB.out))) : w.heap.size ≤ gb165)); have n7_ := Aside0.mk ((by rw [hg]; exact Nat.ne_of_lt (blk_lt (g := gb152) (o := .cells #[.int .i64 0, .string (⟨#[]⟩ : ByteArray), .slice none 0 0, .bool false, .slice none 0 0] 30 (0, 0)) (by (with_reducible repeat (first | refine blk_drewN ?_ _ | refine blk_drew ?_ | refine blk_alloc ?_ _)); exact BK152.out)) : gb152 ≠ gb165)); have n8_ := Aside0.mk ((by rw [hg]; exact Nat.ne_of_gt (blk_lt (g := gb152) (o := .cells #[.int .i64 0, .string (⟨#[]⟩ : ByteArray), .slice none 0 0, .bool false, .slice none 0 0] 30 (0, 0)) (by (with_reducible repeat (first | refine blk_drewN ?_ _ | refine blk_drew ?_ | refine blk_alloc ?_ _)); exact BK152.out)) : gb165 ≠ gb152)); clear HO158; clear HO162; clear BK152; clear HB; have HO158 := n0_; have HO162 := n1_; have BK152 := n2_; have HB := n3_; have BK165 := n4_; have GW165 := n5_; have GE165 := n6_; have NB152_165 := n7_; have NB165_152 := n8_; clear n0_ n1_ n2_ n3_ n4_ n5_ n6_ n7_ n8_; clear hb hbox hg; have hnb9 := NB165_152.out; have hnc9 := NB152_165.out; have hcz10_0 : w8.cell? ⟨gb165, 0, none⟩ = some (.int .i64 0) := (blk_cell BK165.out 0).trans rfl; have hcz10_1 : w8.cell? ⟨gb165, 1, none⟩ = some (.string (⟨#[]⟩ : ByteArray)) := (blk_cell BK165.out 1).trans rfl; have hcz10_2 : w8.cell? ⟨gb165, 2, none⟩ = some (.slice none 0 0) := (blk_cell BK165.out 2).trans rfl; have hcz10_3 : w8.cell? ⟨gb165, 3, none⟩ = some (.bool false) := (blk_cell BK165.out 3).trans rfl; have hcz10_4 : w8.cell? ⟨gb165, 4, none⟩ = some (.slice none 0 0) := (blk_cell BK165.out 4).trans rfl; have hfz10_0 := blk_frozen BK165.out 0; have hfz10_1 := blk_frozen BK165.out 1; have hfz10_2 := blk_frozen BK165.out 2; have hfz10_3 := blk_frozen BK165.out 3; have hfz10_4 := blk_frozen BK165.out 4; obtain ⟨Ao11, co11, eo11⟩ := Kd.R_slice HO158.out; subst eo11; obtain ⟨Ao12, co12, eo12⟩ := Kd.R_slice HO162.out; subst eo12))
  have n0_ : Aside0 (Kd.R Kd.string 9 (((((w8.setCell ⟨gb165, 0, none⟩ (.int .i64 t154)).setCell ⟨gb165, 1, none⟩ (.string t155)).setCell ⟨gb165, 2, none⟩ (.slice Ao11 t156.length co11)).setCell ⟨gb165, 3, none⟩ (.bool t159)).setCell ⟨gb165, 4, none⟩ (.slice Ao12 t160.length co12)) w.heap.size (fun _ => True) (.slice Ao11 t156.length co11) t156) := ⟨by (with_reducible repeat (first | apply Kd.R_alloc | apply Kd.R_drewN | apply Kd.R_drew)); exact Kd.R_mono (Kd.R_far (p := ⟨gb165, 4, none⟩) (Kd.R_far (p := ⟨gb165, 3, none⟩) (Kd.R_far (p := ⟨gb165, 2, none⟩) (Kd.R_far (p := ⟨gb165, 1, none⟩) (Kd.R_far (p := ⟨gb165, 0, none⟩) (Kd.R_types HO158.out BK165.out (by decide)) (fun _ hk => hk.2) (.int .i64 t154)) (fun _ hk => hk.2) (.string t155)) (fun _ hk => hk.2) (.slice Ao11 t156.length co11)) (fun _ hk => hk.2) (.bool t159)) (fun _ hk => hk.2) (.slice Ao12 t160.length co12)) (fun _ hk => trivial)⟩
  have n1_ : Aside0 (Kd.R k30 30 (((((w8.setCell ⟨gb165, 0, none⟩ (.int .i64 t154)).setCell ⟨gb165, 1, none⟩ (.string t155)).setCell ⟨gb165, 2, none⟩ (.slice Ao11 t156.length co11)).setCell ⟨gb165, 3, none⟩ (.bool t159)).setCell ⟨gb165, 4, none⟩ (.slice Ao12 t160.length co12)) w.heap.size (fun k_ => some k_ ≠ (.slice Ao11 t156.length co11 : Value).ownBlock ∧ k_ ≠ gb152 ∧ k_ ≠ gb165) (.slice Ao12 t160.length co12) t160) := ⟨by (with_reducible repeat (first | apply Kd.R_alloc | apply Kd.R_drewN | apply Kd.R_drew)); exact Kd.R_mono (Kd.R_far (p := ⟨gb165, 4, none⟩) (Kd.R_far (p := ⟨gb165, 3, none⟩) (Kd.R_far (p := ⟨gb165, 2, none⟩) (Kd.R_far (p := ⟨gb165, 1, none⟩) (Kd.R_far (p := ⟨gb165, 0, none⟩) (Kd.R_mono HO162.out (fun k_ hk => (⟨hk, hk.2⟩ : _ ∧ k_ ≠ gb165))) (fun _ hk => hk.2) (.int .i64 t154)) (fun _ hk => hk.2) (.string t155)) (fun _ hk => hk.2) (.slice Ao11 t156.length co11)) (fun _ hk => hk.2) (.bool t159)) (fun _ hk => hk.2) (.slice Ao12 t160.length co12)) (fun _ hk => ⟨hk.1.1.1, ⟨hk.1.1.2, hk.1.2⟩⟩)⟩
  have n2_ : Aside0 ((((((w8.setCell ⟨gb165, 0, none⟩ (.int .i64 t154)).setCell ⟨gb165, 1, none⟩ (.string t155)).setCell ⟨gb165, 2, none⟩ (.slice Ao11 t156.length co11)).setCell ⟨gb165, 3, none⟩ (.bool t159)).setCell ⟨gb165, 4, none⟩ (.slice Ao12 t160.length co12)).heap[gb152]? = some (.cells #[.int .i64 0, .string (⟨#[]⟩ : ByteArray), .slice none 0 0, .bool false, .slice none 0 0] 30 (0, 0))) := ⟨by (with_reducible repeat (first | refine blk_drewN ?_ _ | refine blk_drew ?_ | refine blk_alloc ?_ _)); refine blk_far ?_ NB152_165.out _; (with_reducible repeat (first | refine blk_drewN ?_ _ | refine blk_drew ?_ | refine blk_alloc ?_ _)); refine blk_far ?_ NB152_165.out _; (with_reducible repeat (first | refine blk_drewN ?_ _ | refine blk_drew ?_ | refine blk_alloc ?_ _)); refine blk_far ?_ NB152_165.out _; (with_reducible repeat (first | refine blk_drewN ?_ _ | refine blk_drew ?_ | refine blk_alloc ?_ _)); refine blk_far ?_ NB152_165.out _; (with_reducible repeat (first | refine blk_drewN ?_ _ | refine blk_drew ?_ | refine blk_alloc ?_ _)); refine blk_far ?_ NB152_165.out _; (with_reducible repeat (first | refine blk_drewN ?_ _ | refine blk_drew ?_ | refine blk_alloc ?_ _)); exact BK152.out⟩
  have n3_ : Aside0 ((((((w8.setCell ⟨gb165, 0, none⟩ (.int .i64 t154)).setCell ⟨gb165, 1, none⟩ (.string t155)).setCell ⟨gb165, 2, none⟩ (.slice Ao11 t156.length co11)).setCell ⟨gb165, 3, none⟩ (.bool t159)).setCell ⟨gb165, 4, none⟩ (.slice Ao12 t160.length co12)).heap[gb165]? = some (.cells #[.int .i64 t154, .string t155, .slice Ao11 t156.length co11, .bool t159, .slice Ao12 t160.length co12] 30 (0, 0))) := ⟨by (with_reducible repeat (first | refine blk_drewN ?_ _ | refine blk_drew ?_ | refine blk_alloc ?_ _)); refine blk_put (cs := #[.int .i64 t154, .string t155, .slice Ao11 t156.length co11, .bool t159, .slice none 0 0]) ?_ 4 _ rfl; (with_reducible repeat (first | refine blk_drewN ?_ _ | refine blk_drew ?_ | refine blk_alloc ?_ _)); refine blk_put (cs := #[.int .i64 t154, .string t155, .slice Ao11 t156.length co11, .bool false, .slice none 0 0]) ?_ 3 _ rfl; (with_reducible repeat (first | refine blk_drewN ?_ _ | refine blk_drew ?_ | refine blk_alloc ?_ _)); refine blk_put (cs := #[.int .i64 t154, .string t155, .slice none 0 0, .bool false, .slice none 0 0]) ?_ 2 _ rfl; (with_reducible repeat (first | refine blk_drewN ?_ _ | refine blk_drew ?_ | refine blk_alloc ?_ _)); refine blk_put (cs := #[.int .i64 t154, .string (⟨#[]⟩ : ByteArray), .slice none 0 0, .bool false, .slice none 0 0]) ?_ 1 _ rfl; (with_reducible repeat (first | refine blk_drewN ?_ _ | refine blk_drew ?_ | refine blk_alloc ?_ _)); refine blk_put (cs := #[.int .i64 0, .string (⟨#[]⟩ : ByteArray), .slice none 0 0, .bool false, .slice none 0 0]) ?_ 0 _ rfl; (with_reducible repeat (first | refine blk_drewN ?_ _ | refine blk_drew ?_ | refine blk_alloc ?_ _)); exact BK165.out⟩
  have n4_ : Aside0 (Below w.heap.size w (((((w8.setCell ⟨gb165, 0, none⟩ (.int .i64 t154)).setCell ⟨gb165, 1, none⟩ (.string t155)).setCell ⟨gb165, 2, none⟩ (.slice Ao11 t156.length co11)).setCell ⟨gb165, 3, none⟩ (.bool t159)).setCell ⟨gb165, 4, none⟩ (.slice Ao12 t160.length co12))) := ⟨by repeat (first | (with_reducible first | exact HB.out | apply below_alloc | apply pw_below_drewN | apply below_drew1 | refine below_set ?_ GE152.out | refine below_set ?_ GE165.out) | exact HB.out)⟩
  (try clear HO158)
  (try clear HO162)
  (try clear BK152)
  (try clear BK165)
  (try clear HB)
  generalize (((((w8.setCell ⟨gb165, 0, none⟩ (.int .i64 t154)).setCell ⟨gb165, 1, none⟩ (.string t155)).setCell ⟨gb165, 2, none⟩ (.slice Ao11 t156.length co11)).setCell ⟨gb165, 3, none⟩ (.bool t159)).setCell ⟨gb165, 4, none⟩ (.slice Ao12 t160.length co12)) = w13 at n0_ n1_ n2_ n3_ n4_ ⊢
  have HO158 := n0_
  have HO162 := n1_
  have BK152 := n2_
  have BK165 := n3_
  have HB := n4_
  clear n0_ n1_ n2_ n3_ n4_
  have n0_ := Aside0.mk (Kd.R_drew HO158.out)
  have n1_ := Aside0.mk (Kd.R_drew HO162.out)
  have n2_ := Aside0.mk (blk_drew BK152.out)
  have n3_ := Aside0.mk (blk_drew BK165.out)
  have n4_ := Aside0.mk (below_drew1 HB.out)
  clear HO158
  clear HO162
  clear BK152
  clear BK165
  clear HB
  have HO158 := n0_
  have HO162 := n1_
  have BK152 := n2_
  have BK165 := n3_
  have HB := n4_
  clear n0_ n1_ n2_ n3_ n4_
  refine start_ (n := 9) (S := fun w' => w'.cell? ⟨gb165, 0, none⟩ = some (.int .i64 t154) ∧ w'.cell? ⟨gb165, 1, none⟩ = some (.string t155) ∧ w'.cell? ⟨gb165, 2, none⟩ = some (.slice Ao11 t156.length co11) ∧ w'.cell? ⟨gb165, 3, none⟩ = some (.bool t159) ∧ w'.cell? ⟨gb165, 4, none⟩ = some (.slice Ao12 t160.length co12)) (ds := []) #[false, false, false, false, false, false, false, false, false] (by kernel_rfl) rfl rfl ⟨(blk_cell BK165.out 0).trans rfl, (blk_cell BK165.out 1).trans rfl, (blk_cell BK165.out 2).trans rfl, (blk_cell BK165.out 3).trans rfl, (blk_cell BK165.out 4).trans rfl⟩ (fun hHeld => ?_); refine with_tabW spec_ReadFj.tab2 spec_ReadFj.bits2 (fun HT_ HW_ => ?_)
  generalize w13.drew = w14 at HO158 HO162 BK152 BK165 HB hHeld ⊢
  refine pure_ (i := 1) (N := some 15) (v := ?_) (a' := ?_) #[false, true, false, false, false, false, false, false, false] rfl rfl (any_of HT_.out (by kernel_rfl)) (fun _ _ _ h => h) (Or.inl ⟨by rfl, ?_⟩) ?_ ?_
  rotate_left
  ·intro w'
   go_simp
   with_reducible rfl
  rotate_left
  ·simp only [Act.put, List.setIfInBounds_toArray, List.set_cons_zero, List.set_cons_succ, i64_w, i32_w]
   rfl
  refine pure_ (i := 2) (N := some 16) (v := ?_) (a' := ?_) #[false, true, true, false, false, false, false, false, false] rfl rfl (any_of HT_.out (by kernel_rfl)) (fun _ _ _ h => h) (Or.inl ⟨by rfl, ?_⟩) ?_ ?_
  rotate_left
  ·intro w'
   go_simp
   with_reducible rfl
  rotate_left
  ·simp only [Act.put, List.setIfInBounds_toArray, List.set_cons_zero, List.set_cons_succ, i64_w, i32_w]
   rfl
  refine pure_ (i := 3) (N := some 17) (v := ?_) (a' := ?_) #[false, true, true, true, false, false, false, false, false] rfl rfl (any_of HT_.out (by kernel_rfl)) (fun _ _ _ h => h) (Or.inl ⟨by rfl, ?_⟩) ?_ ?_
  rotate_left
  ·intro w'
   go_simp
   with_reducible rfl
  rotate_left
  ·simp only [Act.put, List.setIfInBounds_toArray, List.set_cons_zero, List.set_cons_succ, i64_w, i32_w]
   rfl
  refine take_ (i := 0) (N := some 14) (v := ?_) (a' := ?_) #[true, true, true, true, false, false, false, false, false] rfl rfl (take_ofW HT_.out HW_.out (by kernel_rfl)) (fun _ _ _ h => h) (Or.inl ⟨by rfl, ?_⟩) hHeld ?_ ?_
  rotate_left
  ·rintro w' ⟨s0, s1, s2, s3, s4⟩
   go_simp
   with_reducible rfl
  rotate_left
  ·simp only [Act.put, List.setIfInBounds_toArray, List.set_cons_zero, List.set_cons_succ, i64_w, i32_w]
   rfl
  refine one_ (i := 4) (N := some 18) #[true, true, true, true, true, false, false, false, false] rfl rfl (one_of HT_.out (by kernel_rfl)) (by decide) (fun K hK => ?_)
  refine goes_ Tryd.func26 (by kernel_rfl) rfl #[.string t163] (by rfl) rfl rfl (by (try simp only [List.map_toArray, List.map_cons, List.map_nil]); first | done | rfl | (simp only [List.length_drop, List.length_take]; rfl)) ?_
  with_reducible refine (spec_skipped.calls k t163 t166 _ A5.out).mono ?_
  rintro e w' ⟨rfl, ⟨nd, rfl⟩⟩
  refine ⟨_, rfl, ?_⟩
  refine hK.out _ _ ⟨(blk_cell BK165.out 0).trans rfl, (blk_cell BK165.out 1).trans rfl, (blk_cell BK165.out 2).trans rfl, (blk_cell BK165.out 3).trans rfl, (blk_cell BK165.out 4).trans rfl⟩ (fun hHeld => ?_)
  clear hK K
  refine norm_ (a' := ?_) ?_ ?_
  rotate_left
  ·show Act.put _ (some 18) _ = _
   simp only [Act.put, List.setIfInBounds_toArray, List.set_cons_zero, List.set_cons_succ, i64_w, i32_w]
   rfl
  refine pure_ (i := 5) (N := some 19) (v := ?_) (a' := ?_) #[true, true, true, true, true, true, false, false, false] rfl rfl (any_of HT_.out (by kernel_rfl)) (fun _ _ _ h => h) (Or.inl ⟨by rfl, ?_⟩) ?_ ?_
  rotate_left
  ·intro w'
   go_simp
   with_reducible rfl
  rotate_left
  ·simp only [Act.put, List.setIfInBounds_toArray, List.set_cons_zero, List.set_cons_succ, i64_w, i32_w]
   rfl
  refine pure_ (i := 6) (N := some 20) (v := ?_) (a' := ?_) #[true, true, true, true, true, true, true, false, false] rfl rfl (any_of HT_.out (by kernel_rfl)) (fun _ _ _ h => h) (Or.inl ⟨by rfl, ?_⟩) ?_ ?_
  rotate_left
  ·intro w'
   go_simp
   with_reducible rfl
  rotate_left
  ·simp only [Act.put, List.setIfInBounds_toArray, List.set_cons_zero, List.set_cons_succ, i64_w, i32_w]
   rfl
  refine one_ (i := 7) (N := none) #[true, true, true, true, true, true, true, true, false] rfl rfl (one_of HT_.out (by kernel_rfl)) (by decide) (fun K hK => ?_)
  have hs15 : w14.cell? ⟨gb152, 0, none⟩ = some (.int .i64 0) := (blk_cell BK152.out 0).trans rfl
  have hfs15 := blk_frozen BK152.out 0
  have hns15_1 := NB165_152.out
  have hms15_1 := NB152_165.out
  have hs16 : w14.cell? ⟨gb152, 1, none⟩ = some (.string (⟨#[]⟩ : ByteArray)) := (blk_cell BK152.out 1).trans rfl
  have hfs16 := blk_frozen BK152.out 1
  have hns16_1 := NB165_152.out
  have hms16_1 := NB152_165.out
  have hs17 : w14.cell? ⟨gb152, 2, none⟩ = some (.slice none 0 0) := (blk_cell BK152.out 2).trans rfl
  have hfs17 := blk_frozen BK152.out 2
  have hns17_1 := NB165_152.out
  have hms17_1 := NB152_165.out
  have hs18 : w14.cell? ⟨gb152, 3, none⟩ = some (.bool false) := (blk_cell BK152.out 3).trans rfl
  have hfs18 := blk_frozen BK152.out 3
  have hns18_1 := NB165_152.out
  have hms18_1 := NB152_165.out
  have hs19 : w14.cell? ⟨gb152, 4, none⟩ = some (.slice none 0 0) := (blk_cell BK152.out 4).trans rfl
  have hfs19 := blk_frozen BK152.out 4
  have hns19_1 := NB165_152.out
  have hms19_1 := NB152_165.out
  refine skip_ (w1 := ?_) (by rfl) rfl ?_ ?_
  rotate_left
  ·go_simp
   rfl
  refine hK.out _ _ ⟨((cell_far (p := ⟨gb152, _, none⟩) NB165_152.out _).trans (((cell_far (p := ⟨gb152, _, none⟩) NB165_152.out _).trans (((cell_far (p := ⟨gb152, _, none⟩) NB165_152.out _).trans (((cell_far (p := ⟨gb152, _, none⟩) NB165_152.out _).trans (((cell_far (p := ⟨gb152, _, none⟩) NB165_152.out _).trans (hHeld.1)))))))))), ((cell_far (p := ⟨gb152, _, none⟩) NB165_152.out _).trans (((cell_far (p := ⟨gb152, _, none⟩) NB165_152.out _).trans (((cell_far (p := ⟨gb152, _, none⟩) NB165_152.out _).trans (((cell_far (p := ⟨gb152, _, none⟩) NB165_152.out _).trans (((cell_far (p := ⟨gb152, _, none⟩) NB165_152.out _).trans (hHeld.2.1)))))))))), ((cell_far (p := ⟨gb152, _, none⟩) NB165_152.out _).trans (((cell_far (p := ⟨gb152, _, none⟩) NB165_152.out _).trans (((cell_far (p := ⟨gb152, _, none⟩) NB165_152.out _).trans (((cell_far (p := ⟨gb152, _, none⟩) NB165_152.out _).trans (((cell_far (p := ⟨gb152, _, none⟩) NB165_152.out _).trans (hHeld.2.2.1)))))))))), ((cell_far (p := ⟨gb152, _, none⟩) NB165_152.out _).trans (((cell_far (p := ⟨gb152, _, none⟩) NB165_152.out _).trans (((cell_far (p := ⟨gb152, _, none⟩) NB165_152.out _).trans (((cell_far (p := ⟨gb152, _, none⟩) NB165_152.out _).trans (((cell_far (p := ⟨gb152, _, none⟩) NB165_152.out _).trans (hHeld.2.2.2.1)))))))))), ((cell_far (p := ⟨gb152, _, none⟩) NB165_152.out _).trans (((cell_far (p := ⟨gb152, _, none⟩) NB165_152.out _).trans (((cell_far (p := ⟨gb152, _, none⟩) NB165_152.out _).trans (((cell_far (p := ⟨gb152, _, none⟩) NB165_152.out _).trans (((cell_far (p := ⟨gb152, _, none⟩) NB165_152.out _).trans (hHeld.2.2.2.2))))))))))⟩ (fun hHeld => ?_)
  clear hK K
  refine pure_ (i := 8) (N := some 3) (v := ?_) (a' := ?_) #[true, true, true, true, true, true, true, true, true] rfl rfl (any_of HT_.out (by kernel_rfl)) (fun _ _ _ h => h) (Or.inl ⟨by rfl, ?_⟩) ?_ ?_
  rotate_left
  ·intro w'
   go_simp
   with_reducible rfl
  rotate_left
  ·simp only [Act.put, List.setIfInBounds_toArray, List.set_cons_zero, List.set_cons_succ, i64_w, i32_w]
   rfl
  refine done_ (done_of HT_.out (by kernel_rfl)) ?_
  try go_wp2
  refine bodyPost_ret (results_ct rfl _ _ gb152 30 #[.int .i64 t154, .string t155, .slice Ao11 t156.length co11, .bool t159, .slice Ao12 t160.length co12] (0, 0) _ rfl (by (with_reducible repeat (first | refine blk_drewN ?_ _ | refine blk_drew ?_ | refine blk_alloc ?_ _)); refine blk_put (cs := #[.int .i64 t154, .string t155, .slice Ao11 t156.length co11, .bool t159, .slice none 0 0]) ?_ 4 _ rfl; (with_reducible repeat (first | refine blk_drewN ?_ _ | refine blk_drew ?_ | refine blk_alloc ?_ _)); refine blk_put (cs := #[.int .i64 t154, .string t155, .slice Ao11 t156.length co11, .bool false, .slice none 0 0]) ?_ 3 _ rfl; (with_reducible repeat (first | refine blk_drewN ?_ _ | refine blk_drew ?_ | refine blk_alloc ?_ _)); refine blk_put (cs := #[.int .i64 t154, .string t155, .slice none 0 0, .bool false, .slice none 0 0]) ?_ 2 _ rfl; (with_reducible repeat (first | refine blk_drewN ?_ _ | refine blk_drew ?_ | refine blk_alloc ?_ _)); refine blk_put (cs := #[.int .i64 t154, .string (⟨#[]⟩ : ByteArray), .slice none 0 0, .bool false, .slice none 0 0]) ?_ 1 _ rfl; (with_reducible repeat (first | refine blk_drewN ?_ _ | refine blk_drew ?_ | refine blk_alloc ?_ _)); refine blk_put (cs := #[.int .i64 0, .string (⟨#[]⟩ : ByteArray), .slice none 0 0, .bool false, .slice none 0 0]) ?_ 0 _ rfl; (with_reducible repeat (first | refine blk_drewN ?_ _ | refine blk_drew ?_ | refine blk_alloc ?_ _)); exact BK152.out) Tryd.underlying30 rfl (by kernel_rfl)) rfl ?_
  first | exact ⟨_, _, by first | rfl | (simp [errW_none, errW_some] <;> rfl) | (simp [*, errW_none, errW_some] <;> rfl) | (simp [errW_none, errW_some] <;> exact ⟨rfl, rfl⟩) | (simp [*, errW_none, errW_some] <;> exact ⟨rfl, rfl⟩), by (with_reducible repeat (first | apply Kd.R_alloc | apply Kd.R_drewN | apply Kd.R_drew)); exact Kd.R_mono (Kd.R_far (p := ⟨gb152, 4, none⟩) (Kd.R_far (p := ⟨gb152, 3, none⟩) (Kd.R_far (p := ⟨gb152, 2, none⟩) (Kd.R_far (p := ⟨gb152, 1, none⟩) (Kd.R_far (p := ⟨gb152, 0, none⟩) (Kd.R_types HO158.out BK152.out (by decide)) (fun _ hk => hk.2) (.int .i64 t154)) (fun _ hk => hk.2) (.string t155)) (fun _ hk => hk.2) (.slice Ao11 t156.length co11)) (fun _ hk => hk.2) (.bool t159)) (fun _ hk => hk.2) (.slice Ao12 t160.length co12)) (fun _ hk => trivial), by (with_reducible repeat (first | apply Kd.R_alloc | apply Kd.R_drewN | apply Kd.R_drew)); exact Kd.R_mono (Kd.R_far (p := ⟨gb152, 4, none⟩) (Kd.R_far (p := ⟨gb152, 3, none⟩) (Kd.R_far (p := ⟨gb152, 2, none⟩) (Kd.R_far (p := ⟨gb152, 1, none⟩) (Kd.R_far (p := ⟨gb152, 0, none⟩) (Kd.R_mono HO162.out (fun k_ hk => (⟨hk, hk.2.1⟩ : _ ∧ k_ ≠ gb152))) (fun _ hk => hk.2) (.int .i64 t154)) (fun _ hk => hk.2) (.string t155)) (fun _ hk => hk.2) (.slice Ao11 t156.length co11)) (fun _ hk => hk.2) (.bool t159)) (fun _ hk => hk.2) (.slice Ao12 t160.length co12)) (fun _ hk => hk.1.1), by repeat (first | (with_reducible first | exact HB.out | apply below_alloc | apply pw_below_drewN | apply below_drew1 | refine below_set ?_ GE152.out | refine below_set ?_ GE165.out) | exact HB.out)⟩ | exact ⟨_, _, by first | rfl | (simp [errW_none, errW_some] <;> rfl) | (simp [*, errW_none, errW_some] <;> rfl) | (simp [errW_none, errW_some] <;> exact ⟨rfl, rfl⟩) | (simp [*, errW_none, errW_some] <;> exact ⟨rfl, rfl⟩), by (with_reducible repeat (first | apply Kd.R_alloc | apply Kd.R_drewN | apply Kd.R_drew)); exact Kd.R_mono (Kd.R_far (p := ⟨gb152, 4, none⟩) (Kd.R_far (p := ⟨gb152, 3, none⟩) (Kd.R_far (p := ⟨gb152, 2, none⟩) (Kd.R_far (p := ⟨gb152, 1, none⟩) (Kd.R_far (p := ⟨gb152, 0, none⟩) (Kd.R_types HO158.out BK152.out (by decide)) (fun _ hk => hk.2) (.int .i64 t154)) (fun _ hk => hk.2) (.string t155)) (fun _ hk => hk.2) (.slice Ao11 t156.length co11)) (fun _ hk => hk.2) (.bool t159)) (fun _ hk => hk.2) (.slice Ao12 t160.length co12)) (fun _ hk => trivial), by (with_reducible repeat (first | apply Kd.R_alloc | apply Kd.R_drewN | apply Kd.R_drew)); exact Kd.R_mono (Kd.R_far (p := ⟨gb152, 4, none⟩) (Kd.R_far (p := ⟨gb152, 3, none⟩) (Kd.R_far (p := ⟨gb152, 2, none⟩) (Kd.R_far (p := ⟨gb152, 1, none⟩) (Kd.R_far (p := ⟨gb152, 0, none⟩) (Kd.R_mono (Kd.R_drewN HO162.out _) (fun k_ hk => (⟨hk, hk.2.1⟩ : _ ∧ k_ ≠ gb152))) (fun _ hk => hk.2) (.int .i64 t154)) (fun _ hk => hk.2) (.string t155)) (fun _ hk => hk.2) (.slice Ao11 t156.length co11)) (fun _ hk => hk.2) (.bool t159)) (fun _ hk => hk.2) (.slice Ao12 t160.length co12)) (fun _ hk => hk.1.1), by repeat (first | (with_reducible first | exact HB.out | apply below_alloc | apply pw_below_drewN | apply below_drew1 | refine below_set ?_ GE152.out | refine below_set ?_ GE165.out) | exact HB.out)⟩
 replace c4 := Bool.eq_false_iff.mpr c4
 subst c4
 have H1 : (some (t154, t155, t156, t159, t160, false)) = some (r1, r2, r3, r4, r5, r6) := by rw [if_neg (show ¬ (false = true) by decide)] at H; exact H
 clear H
 have H := H1
 clear H1
 simp only [Option.some.injEq, Prod.mk.injEq] at H
 obtain ⟨rfl, rfl, rfl, rfl, rfl, rfl⟩ := H
 go_enter Tryd.func11, Tryd.ntmps11
 try go_wp2_with (first | ((with_reducible refine gate_dst (N := 2) rfl ?_); refine box_event ?hg (N := 2) ?hd (cs := #[.int .i64 0, .string (⟨#[]⟩ : ByteArray), .slice none 0 0, .bool false, .slice none 0 0]) (t := 30) ?hr ?_; (case hd => rfl); (case hg => rfl); (case hr => first | (go_simp; done) | (go_simp; rfl)); intro gb152 hg w20 hbox hb; have n0_ := Aside0.mk (below_step (by repeat (first | (with_reducible first | exact HB.out | apply below_alloc | apply pw_below_drewN | apply below_drew1) | exact HB.out)) hb); have n1_ := Aside0.mk (hbox); have n2_ := Aside0.mk ((by rw [hg]; exact (below_size (by repeat (first | (with_reducible first | exact HB.out | apply below_alloc | apply pw_below_drewN | apply below_drew1) | exact HB.out))) : w.heap.size ≤ gb152)); have n3_ := Aside0.mk ((by rw [hg]; exact (below_size (by repeat (first | (with_reducible first | exact HB.out | apply below_alloc | apply pw_below_drewN | apply below_drew1) | exact HB.out))) : w.heap.size ≤ gb152)); clear HB; have HB := n0_; have BK152 := n1_; have GW152 := n2_; have GE152 := n3_; clear n0_ n1_ n2_ n3_; clear hb hbox hg) | ((with_reducible refine gate_callee (f := 26) rfl ?_); refine goesL_ (some 9) rfl rfl Tryd.func26 (by kernel_rfl) rfl #[.string a0] rfl (by (try simp only [List.map_toArray, List.map_cons, List.map_nil]); first | done | rfl | (simp only [List.length_drop, List.length_take]; rfl)) ?_; (with_reducible refine (spec_skipped.calls k a0 t153 _ A2.out).mono ?_); rintro e w' ⟨rfl, ⟨nd, rfl⟩⟩; refine ⟨_, rfl, ?_⟩; (try (rw [drewN_self w20]; generalize hq_ : World.drewN w20 _ = w20; have n0_ : Aside0 (w20.heap[gb152]? = some (.cells #[.int .i64 0, .string (⟨#[]⟩ : ByteArray), .slice none 0 0, .bool false, .slice none 0 0] 30 (0, 0))) := ⟨by rw [← hq_]; exact (by (with_reducible repeat (first | refine blk_drewN ?_ _ | refine blk_drew ?_ | refine blk_alloc ?_ _)); exact BK152.out)⟩; have n1_ : Aside0 (Below w.heap.size w w20) := ⟨by rw [← hq_]; exact (by repeat (first | (with_reducible first | exact HB.out | apply below_alloc | apply pw_below_drewN | apply below_drew1 | refine below_set ?_ GE152.out) | exact HB.out))⟩; clear BK152 HB hq_; have BK152 := n0_; have HB := n1_; clear n0_ n1_))) | ((with_reducible refine gate_callee (f := 25) rfl ?_); refine goesL_ (some 10) rfl rfl Tryd.func25 (by kernel_rfl) rfl #[.string t153, .int .i64 0] rfl (by (try simp only [List.map_toArray, List.map_cons, List.map_nil]); first | done | rfl | (simp only [List.length_drop, List.length_take]; rfl)) ?_; (with_reducible refine (spec_BeginFj.calls k t153 0 t154 t155 t156 t159 t160 t163 false _ A3.out).mono ?_); rintro e w21 ⟨v157, v161, rfl, ho0, ho1, hb⟩; refine ⟨_, rfl, ?_⟩; have n0_ := Aside0.mk (Kd.R_lower ho0 (below_size (by repeat (first | (with_reducible first | exact HB.out | apply below_alloc | apply pw_below_drewN | apply below_drew1 | refine below_set ?_ GE152.out) | exact HB.out)))); have n1_ := Aside0.mk (Kd.R_lower (Kd.R_newB ho1 (g := gb152) (o := .cells #[.int .i64 0, .string (⟨#[]⟩ : ByteArray), .slice none 0 0, .bool false, .slice none 0 0] 30 (0, 0)) (by (with_reducible repeat (first | refine blk_drewN ?_ _ | refine blk_drew ?_ | refine blk_alloc ?_ _)); exact BK152.out)) (below_size (by repeat (first | (with_reducible first | exact HB.out | apply below_alloc | apply pw_below_drewN | apply below_drew1 | refine below_set ?_ GE152.out) | exact HB.out)))); have n2_ := Aside0.mk (blk_below (g := gb152) (o := .cells #[.int .i64 0, .string (⟨#[]⟩ : ByteArray), .slice none 0 0, .bool false, .slice none 0 0] 30 (0, 0)) (by (with_reducible repeat (first | refine blk_drewN ?_ _ | refine blk_drew ?_ | refine blk_alloc ?_ _)); exact BK152.out) hb); have n3_ := Aside0.mk (below_step (by repeat (first | (with_reducible first | exact HB.out | apply below_alloc | apply pw_below_drewN | apply below_drew1 | refine below_set ?_ GE152.out) | exact HB.out)) hb); clear BK152; clear HB; have HO158 := n0_; have HO162 := n1_; have BK152 := n2_; have HB := n3_; clear n0_ n1_ n2_ n3_; (try clear hb); (try clear hb2); (try clear hk); (try clear hi); (try clear ho0); (try clear ho1)) | ((with_reducible refine gate_dst (N := 4) rfl ?_); refine box_event ?hg (N := 4) ?hd (cs := #[.int .i64 0, .string (⟨#[]⟩ : ByteArray), .slice none 0 0, .bool false, .slice none 0 0]) (t := 30) ?hr ?_; (case hd => rfl); (case hg => rfl); (case hr => first | (go_simp; done) | (go_simp; rfl)); intro gb165 hg w22 hbox hb; have n0_ := Aside0.mk (Kd.R_below (by (with_reducible repeat (first | apply Kd.R_alloc | apply Kd.R_drewN | apply Kd.R_drew)); exact HO158.out) hb); have n1_ := Aside0.mk (Kd.R_below (Kd.R_elderB (by (with_reducible repeat (first | apply Kd.R_alloc | apply Kd.R_drewN | apply Kd.R_drew)); exact HO162.out) gb165 (Nat.le_of_eq hg.symm)) hb); have n2_ := Aside0.mk (blk_below (g := gb152) (o := .cells #[.int .i64 0, .string (⟨#[]⟩ : ByteArray), .slice none 0 0, .bool false, .slice none 0 0] 30 (0, 0)) (by (with_reducible repeat (first | refine blk_drewN ?_ _ | refine blk_drew ?_ | refine blk_alloc ?_ _)); exact BK152.out) hb); have n3_ := Aside0.mk (below_step (by repeat (first | (with_reducible first | exact HB.out | apply below_alloc | apply pw_below_drewN | apply below_drew1 | refine below_set ?_ GE152.out) | exact HB.out)) hb); have n4_ := Aside0.mk (hbox); have n5_ := Aside0.mk ((by rw [hg]; exact (below_size (by repeat (first | (with_reducible first | exact HB.out | apply below_alloc | apply pw_below_drewN | apply below_drew1 | refine below_set ?_ GE152.out) | exact HB.out))) : w.heap.size ≤ gb165)); have n6_ := Aside0.mk ((by rw [hg]; exact (below_size (by repeat (first | (with_reducible first | exact HB.out | apply below_alloc | apply pw_below_drewN | apply below_drew1 | refine below_set ?_ GE152.out) | exact HB.out))) : w.heap.size ≤ gb165)); have n7_ := Aside0.mk ((by rw [hg]; exact Nat.ne_of_lt (blk_lt (g := gb152) (o := .cells #[.int .i64 0, .string (⟨#[]⟩ : ByteArray), .slice none 0 0, .bool false, .slice none 0 0] 30 (0, 0)) (by (with_reducible repeat (first | refine blk_drewN ?_ _ | refine blk_drew ?_ | refine blk_alloc ?_ _)); exact BK152.out)) : gb152 ≠ gb165)); have n8_ := Aside0.mk ((by rw [hg]; exact Nat.ne_of_gt (blk_lt (g := gb152) (o := .cells #[.int .i64 0, .string (⟨#[]⟩ : ByteArray), .slice none 0 0, .bool false, .slice none 0 0] 30 (0, 0)) (by (with_reducible repeat (first | refine blk_drewN ?_ _ | refine blk_drew ?_ | refine blk_alloc ?_ _)); exact BK152.out)) : gb165 ≠ gb152)); clear HO158; clear HO162; clear BK152; clear HB; have HO158 := n0_; have HO162 := n1_; have BK152 := n2_; have HB := n3_; have BK165 := n4_; have GW165 := n5_; have GE165 := n6_; have NB152_165 := n7_; have NB165_152 := n8_; clear n0_ n1_ n2_ n3_ n4_ n5_ n6_ n7_ n8_; clear hb hbox hg; have hnb23 := NB165_152.out; have hnc23 := NB152_165.out; have hcz24_0 : w22.cell? ⟨gb165, 0, none⟩ = some (.int .i64 0) := (blk_cell BK165.out 0).trans rfl; have hcz24_1 : w22.cell? ⟨gb165, 1, none⟩ = some (.string (⟨#[]⟩ : ByteArray)) := (blk_cell BK165.out 1).trans rfl; have hcz24_2 : w22.cell? ⟨gb165, 2, none⟩ = some (.slice none 0 0) := (blk_cell BK165.out 2).trans rfl; have hcz24_3 : w22.cell? ⟨gb165, 3, none⟩ = some (.bool false) := (blk_cell BK165.out 3).trans rfl; have hcz24_4 : w22.cell? ⟨gb165, 4, none⟩ = some (.slice none 0 0) := (blk_cell BK165.out 4).trans rfl; have hfz24_0 := blk_frozen BK165.out 0; have hfz24_1 := blk_frozen BK165.out 1; have hfz24_2 := blk_frozen BK165.out 2; have hfz24_3 := blk_frozen BK165.out 3; have hfz24_4 := blk_frozen BK165.out 4; obtain ⟨Ao25, co25, eo25⟩ := Kd.R_slice HO158.out; subst eo25; obtain ⟨Ao26, co26, eo26⟩ := Kd.R_slice HO162.out; subst eo26))
 have n0_ : Aside0 (Kd.R Kd.string 9 (((((w22.setCell ⟨gb165, 0, none⟩ (.int .i64 t154)).setCell ⟨gb165, 1, none⟩ (.string t155)).setCell ⟨gb165, 2, none⟩ (.slice Ao25 t156.length co25)).setCell ⟨gb165, 3, none⟩ (.bool t159)).setCell ⟨gb165, 4, none⟩ (.slice Ao26 t160.length co26)) w.heap.size (fun _ => True) (.slice Ao25 t156.length co25) t156) := ⟨by (with_reducible repeat (first | apply Kd.R_alloc | apply Kd.R_drewN | apply Kd.R_drew)); exact Kd.R_mono (Kd.R_far (p := ⟨gb165, 4, none⟩) (Kd.R_far (p := ⟨gb165, 3, none⟩) (Kd.R_far (p := ⟨gb165, 2, none⟩) (Kd.R_far (p := ⟨gb165, 1, none⟩) (Kd.R_far (p := ⟨gb165, 0, none⟩) (Kd.R_types HO158.out BK165.out (by decide)) (fun _ hk => hk.2) (.int .i64 t154)) (fun _ hk => hk.2) (.string t155)) (fun _ hk => hk.2) (.slice Ao25 t156.length co25)) (fun _ hk => hk.2) (.bool t159)) (fun _ hk => hk.2) (.slice Ao26 t160.length co26)) (fun _ hk => trivial)⟩
 have n1_ : Aside0 (Kd.R k30 30 (((((w22.setCell ⟨gb165, 0, none⟩ (.int .i64 t154)).setCell ⟨gb165, 1, none⟩ (.string t155)).setCell ⟨gb165, 2, none⟩ (.slice Ao25 t156.length co25)).setCell ⟨gb165, 3, none⟩ (.bool t159)).setCell ⟨gb165, 4, none⟩ (.slice Ao26 t160.length co26)) w.heap.size (fun k_ => some k_ ≠ (.slice Ao25 t156.length co25 : Value).ownBlock ∧ k_ ≠ gb152 ∧ k_ ≠ gb165) (.slice Ao26 t160.length co26) t160) := ⟨by (with_reducible repeat (first | apply Kd.R_alloc | apply Kd.R_drewN | apply Kd.R_drew)); exact Kd.R_mono (Kd.R_far (p := ⟨gb165, 4, none⟩) (Kd.R_far (p := ⟨gb165, 3, none⟩) (Kd.R_far (p := ⟨gb165, 2, none⟩) (Kd.R_far (p := ⟨gb165, 1, none⟩) (Kd.R_far (p := ⟨gb165, 0, none⟩) (Kd.R_mono HO162.out (fun k_ hk => (⟨hk, hk.2⟩ : _ ∧ k_ ≠ gb165))) (fun _ hk => hk.2) (.int .i64 t154)) (fun _ hk => hk.2) (.string t155)) (fun _ hk => hk.2) (.slice Ao25 t156.length co25)) (fun _ hk => hk.2) (.bool t159)) (fun _ hk => hk.2) (.slice Ao26 t160.length co26)) (fun _ hk => ⟨hk.1.1.1, ⟨hk.1.1.2, hk.1.2⟩⟩)⟩
 have n2_ : Aside0 ((((((w22.setCell ⟨gb165, 0, none⟩ (.int .i64 t154)).setCell ⟨gb165, 1, none⟩ (.string t155)).setCell ⟨gb165, 2, none⟩ (.slice Ao25 t156.length co25)).setCell ⟨gb165, 3, none⟩ (.bool t159)).setCell ⟨gb165, 4, none⟩ (.slice Ao26 t160.length co26)).heap[gb152]? = some (.cells #[.int .i64 0, .string (⟨#[]⟩ : ByteArray), .slice none 0 0, .bool false, .slice none 0 0] 30 (0, 0))) := ⟨by (with_reducible repeat (first | refine blk_drewN ?_ _ | refine blk_drew ?_ | refine blk_alloc ?_ _)); refine blk_far ?_ NB152_165.out _; (with_reducible repeat (first | refine blk_drewN ?_ _ | refine blk_drew ?_ | refine blk_alloc ?_ _)); refine blk_far ?_ NB152_165.out _; (with_reducible repeat (first | refine blk_drewN ?_ _ | refine blk_drew ?_ | refine blk_alloc ?_ _)); refine blk_far ?_ NB152_165.out _; (with_reducible repeat (first | refine blk_drewN ?_ _ | refine blk_drew ?_ | refine blk_alloc ?_ _)); refine blk_far ?_ NB152_165.out _; (with_reducible repeat (first | refine blk_drewN ?_ _ | refine blk_drew ?_ | refine blk_alloc ?_ _)); refine blk_far ?_ NB152_165.out _; (with_reducible repeat (first | refine blk_drewN ?_ _ | refine blk_drew ?_ | refine blk_alloc ?_ _)); exact BK152.out⟩
 have n3_ : Aside0 ((((((w22.setCell ⟨gb165, 0, none⟩ (.int .i64 t154)).setCell ⟨gb165, 1, none⟩ (.string t155)).setCell ⟨gb165, 2, none⟩ (.slice Ao25 t156.length co25)).setCell ⟨gb165, 3, none⟩ (.bool t159)).setCell ⟨gb165, 4, none⟩ (.slice Ao26 t160.length co26)).heap[gb165]? = some (.cells #[.int .i64 t154, .string t155, .slice Ao25 t156.length co25, .bool t159, .slice Ao26 t160.length co26] 30 (0, 0))) := ⟨by (with_reducible repeat (first | refine blk_drewN ?_ _ | refine blk_drew ?_ | refine blk_alloc ?_ _)); refine blk_put (cs := #[.int .i64 t154, .string t155, .slice Ao25 t156.length co25, .bool t159, .slice none 0 0]) ?_ 4 _ rfl; (with_reducible repeat (first | refine blk_drewN ?_ _ | refine blk_drew ?_ | refine blk_alloc ?_ _)); refine blk_put (cs := #[.int .i64 t154, .string t155, .slice Ao25 t156.length co25, .bool false, .slice none 0 0]) ?_ 3 _ rfl; (with_reducible repeat (first | refine blk_drewN ?_ _ | refine blk_drew ?_ | refine blk_alloc ?_ _)); refine blk_put (cs := #[.int .i64 t154, .string t155, .slice none 0 0, .bool false, .slice none 0 0]) ?_ 2 _ rfl; (with_reducible repeat (first | refine blk_drewN ?_ _ | refine blk_drew ?_ | refine blk_alloc ?_ _)); refine blk_put (cs := #[.int .i64 t154, .string (⟨#[]⟩ : ByteArray), .slice none 0 0, .bool false, .slice none 0 0]) ?_ 1 _ rfl; (with_reducible repeat (first | refine blk_drewN ?_ _ | refine blk_drew ?_ | refine blk_alloc ?_ _)); refine blk_put (cs := #[.int .i64 0, .string (⟨#[]⟩ : ByteArray), .slice none 0 0, .bool false, .slice none 0 0]) ?_ 0 _ rfl; (with_reducible repeat (first | refine blk_drewN ?_ _ | refine blk_drew ?_ | refine blk_alloc ?_ _)); exact BK165.out⟩
 have n4_ : Aside0 (Below w.heap.size w (((((w22.setCell ⟨gb165, 0, none⟩ (.int .i64 t154)).setCell ⟨gb165, 1, none⟩ (.string t155)).setCell ⟨gb165, 2, none⟩ (.slice Ao25 t156.length co25)).setCell ⟨gb165, 3, none⟩ (.bool t159)).setCell ⟨gb165, 4, none⟩ (.slice Ao26 t160.length co26))) := ⟨by repeat (first | (with_reducible first | exact HB.out | apply below_alloc | apply pw_below_drewN | apply below_drew1 | refine below_set ?_ GE152.out | refine below_set ?_ GE165.out) | exact HB.out)⟩
 (try clear HO158)
 (try clear HO162)
 (try clear BK152)
 (try clear BK165)
 (try clear HB)
 generalize (((((w22.setCell ⟨gb165, 0, none⟩ (.int .i64 t154)).setCell ⟨gb165, 1, none⟩ (.string t155)).setCell ⟨gb165, 2, none⟩ (.slice Ao25 t156.length co25)).setCell ⟨gb165, 3, none⟩ (.bool t159)).setCell ⟨gb165, 4, none⟩ (.slice Ao26 t160.length co26)) = w27 at n0_ n1_ n2_ n3_ n4_ ⊢
 have HO158 := n0_
 have HO162 := n1_
 have BK152 := n2_
 have BK165 := n3_
 have HB := n4_
 clear n0_ n1_ n2_ n3_ n4_
 have n0_ := Aside0.mk (Kd.R_drew HO158.out)
 have n1_ := Aside0.mk (Kd.R_drew HO162.out)
 have n2_ := Aside0.mk (blk_drew BK152.out)
 have n3_ := Aside0.mk (blk_drew BK165.out)
 have n4_ := Aside0.mk (below_drew1 HB.out)
 clear HO158
 clear HO162
 clear BK152
 clear BK165
 clear HB
 have HO158 := n0_
 have HO162 := n1_
 have BK152 := n2_
 have BK165 := n3_
 have HB := n4_
 clear n0_ n1_ n2_ n3_ n4_
 refine start_ (n := 9) (S := fun w' => w'.cell? ⟨gb165, 0, none⟩ = some (.int .i64 t154) ∧ w'.cell? ⟨gb165, 1, none⟩ = some (.string t155) ∧ w'.cell? ⟨gb165, 2, none⟩ = some (.slice Ao25 t156.length co25) ∧ w'.cell? ⟨gb165, 3, none⟩ = some (.bool t159) ∧ w'.cell? ⟨gb165, 4, none⟩ = some (.slice Ao26 t160.length co26)) (ds := []) #[false, false, false, false, false, false, false, false, false] (by kernel_rfl) rfl rfl ⟨(blk_cell BK165.out 0).trans rfl, (blk_cell BK165.out 1).trans rfl, (blk_cell BK165.out 2).trans rfl, (blk_cell BK165.out 3).trans rfl, (blk_cell BK165.out 4).trans rfl⟩ (fun hHeld => ?_); refine with_tabW spec_ReadFj.tab2 spec_ReadFj.bits2 (fun HT_ HW_ => ?_)
 generalize w27.drew = w28 at HO158 HO162 BK152 BK165 HB hHeld ⊢
 refine pure_ (i := 1) (N := some 15) (v := ?_) (a' := ?_) #[false, true, false, false, false, false, false, false, false] rfl rfl (any_of HT_.out (by kernel_rfl)) (fun _ _ _ h => h) (Or.inl ⟨by rfl, ?_⟩) ?_ ?_
 rotate_left
 ·intro w'
  go_simp
  with_reducible rfl
 rotate_left
 ·simp only [Act.put, List.setIfInBounds_toArray, List.set_cons_zero, List.set_cons_succ, i64_w, i32_w]
  rfl
 refine pure_ (i := 2) (N := some 16) (v := ?_) (a' := ?_) #[false, true, true, false, false, false, false, false, false] rfl rfl (any_of HT_.out (by kernel_rfl)) (fun _ _ _ h => h) (Or.inl ⟨by rfl, ?_⟩) ?_ ?_
 rotate_left
 ·intro w'
  go_simp
  with_reducible rfl
 rotate_left
 ·simp only [Act.put, List.setIfInBounds_toArray, List.set_cons_zero, List.set_cons_succ, i64_w, i32_w]
  rfl
 refine pure_ (i := 3) (N := some 17) (v := undef) (a' := ?_) #[false, true, true, true, false, false, false, false, false] rfl rfl (any_of HT_.out (by kernel_rfl)) (fun _ _ _ h => h) (Or.inr ⟨by rfl, rfl⟩) ?_ ?_
 rotate_left
 ·simp only [Act.put, List.setIfInBounds_toArray, List.set_cons_zero, List.set_cons_succ, i64_w, i32_w]
  rfl
 refine pure_ (i := 4) (N := some 18) (v := undef) (a' := ?_) #[false, true, true, true, true, false, false, false, false] rfl rfl (any_of HT_.out (by kernel_rfl)) (fun _ _ _ h => h) (Or.inr ⟨by rfl, rfl⟩) ?_ ?_
 rotate_left
 ·simp only [Act.put, List.setIfInBounds_toArray, List.set_cons_zero, List.set_cons_succ, i64_w, i32_w]
  rfl
 refine pure_ (i := 5) (N := some 19) (v := undef) (a' := ?_) #[false, true, true, true, true, true, false, false, false] rfl rfl (any_of HT_.out (by kernel_rfl)) (fun _ _ _ h => h) (Or.inr ⟨by rfl, rfl⟩) ?_ ?_
 rotate_left
 ·simp only [Act.put, List.setIfInBounds_toArray, List.set_cons_zero, List.set_cons_succ, i64_w, i32_w]
  rfl
 refine pure_ (i := 6) (N := some 20) (v := ?_) (a' := ?_) #[false, true, true, true, true, true, true, false, false] rfl rfl (any_of HT_.out (by kernel_rfl)) (fun _ _ _ h => h) (Or.inl ⟨by rfl, ?_⟩) ?_ ?_
 rotate_left
 ·intro w'
  go_simp
  with_reducible rfl
 rotate_left
 ·simp only [Act.put, List.setIfInBounds_toArray, List.set_cons_zero, List.set_cons_succ, i64_w, i32_w]
  rfl
 refine take_ (i := 0) (N := some 14) (v := ?_) (a' := ?_) #[true, true, true, true, true, true, true, false, false] rfl rfl (take_ofW HT_.out HW_.out (by kernel_rfl)) (fun _ _ _ h => h) (Or.inl ⟨by rfl, ?_⟩) hHeld ?_ ?_
 rotate_left
 ·rintro w' ⟨s0, s1, s2, s3, s4⟩
  go_simp
  with_reducible rfl
 rotate_left
 ·simp only [Act.put, List.setIfInBounds_toArray, List.set_cons_zero, List.set_cons_succ, i64_w, i32_w]
  rfl
 refine one_ (i := 7) (N := none) #[true, true, true, true, true, true, true, true, false] rfl rfl (one_of HT_.out (by kernel_rfl)) (by decide) (fun K hK => ?_)
 have hs29 : w28.cell? ⟨gb152, 0, none⟩ = some (.int .i64 0) := (blk_cell BK152.out 0).trans rfl
 have hfs29 := blk_frozen BK152.out 0
 have hns29_1 := NB165_152.out
 have hms29_1 := NB152_165.out
 have hs30 : w28.cell? ⟨gb152, 1, none⟩ = some (.string (⟨#[]⟩ : ByteArray)) := (blk_cell BK152.out 1).trans rfl
 have hfs30 := blk_frozen BK152.out 1
 have hns30_1 := NB165_152.out
 have hms30_1 := NB152_165.out
 have hs31 : w28.cell? ⟨gb152, 2, none⟩ = some (.slice none 0 0) := (blk_cell BK152.out 2).trans rfl
 have hfs31 := blk_frozen BK152.out 2
 have hns31_1 := NB165_152.out
 have hms31_1 := NB152_165.out
 have hs32 : w28.cell? ⟨gb152, 3, none⟩ = some (.bool false) := (blk_cell BK152.out 3).trans rfl
 have hfs32 := blk_frozen BK152.out 3
 have hns32_1 := NB165_152.out
 have hms32_1 := NB152_165.out
 have hs33 : w28.cell? ⟨gb152, 4, none⟩ = some (.slice none 0 0) := (blk_cell BK152.out 4).trans rfl
 have hfs33 := blk_frozen BK152.out 4
 have hns33_1 := NB165_152.out
 have hms33_1 := NB152_165.out
 refine skip_ (w1 := ?_) (by rfl) rfl ?_ ?_
 rotate_left
 ·go_simp
  rfl
 refine hK.out _ _ ⟨((cell_far (p := ⟨gb152, _, none⟩) NB165_152.out _).trans (((cell_far (p := ⟨gb152, _, none⟩) NB165_152.out _).trans (((cell_far (p := ⟨gb152, _, none⟩) NB165_152.out _).trans (((cell_far (p := ⟨gb152, _, none⟩) NB165_152.out _).trans (((cell_far (p := ⟨gb152, _, none⟩) NB165_152.out _).trans (hHeld.1)))))))))), ((cell_far (p := ⟨gb152, _, none⟩) NB165_152.out _).trans (((cell_far (p := ⟨gb152, _, none⟩) NB165_152.out _).trans (((cell_far (p := ⟨gb152, _, none⟩) NB165_152.out _).trans (((cell_far (p := ⟨gb152, _, none⟩) NB165_152.out _).trans (((cell_far (p := ⟨gb152, _, none⟩) NB165_152.out _).trans (hHeld.2.1)))))))))), ((cell_far (p := ⟨gb152, _, none⟩) NB165_152.out _).trans (((cell_far (p := ⟨gb152, _, none⟩) NB165_152.out _).trans (((cell_far (p := ⟨gb152, _, none⟩) NB165_152.out _).trans (((cell_far (p := ⟨gb152, _, none⟩) NB165_152.out _).trans (((cell_far (p := ⟨gb152, _, none⟩) NB165_152.out _).trans (hHeld.2.2.1)))))))))), ((cell_far (p := ⟨gb152, _, none⟩) NB165_152.out _).trans (((cell_far (p := ⟨gb152, _, none⟩) NB165_152.out _).trans (((cell_far (p := ⟨gb152, _, none⟩) NB165_152.out _).trans (((cell_far (p := ⟨gb152, _, none⟩) NB165_152.out _).trans (((cell_far (p := ⟨gb152, _, none⟩) NB165_152.out _).trans (hHeld.2.2.2.1)))))))))), ((cell_far (p := ⟨gb152, _, none⟩) NB165_152.out _).trans (((cell_far (p := ⟨gb152, _, none⟩) NB165_152.out _).trans (((cell_far (p := ⟨gb152, _, none⟩) NB165_152.out _).trans (((cell_far (p := ⟨gb152, _, none⟩) NB165_152.out _).trans (((cell_far (p := ⟨gb152, _, none⟩) NB165_152.out _).trans (hHeld.2.2.2.2))))))))))⟩ (fun hHeld => ?_)
 clear hK K
 refine pure_ (i := 8) (N := some 3) (v := ?_) (a' := ?_) #[true, true, true, true, true, true, true, true, true] rfl rfl (any_of HT_.out (by kernel_rfl)) (fun _ _ _ h => h) (Or.inl ⟨by rfl, ?_⟩) ?_ ?_
 rotate_left
 ·intro w'
  go_simp
  with_reducible rfl
 rotate_left
 ·simp only [Act.put, List.setIfInBounds_toArray, List.set_cons_zero, List.set_cons_succ, i64_w, i32_w]
  rfl
 refine done_ (done_of HT_.out (by kernel_rfl)) ?_
 try go_wp2
 refine bodyPost_ret (results_ct rfl _ _ gb152 30 #[.int .i64 t154, .string t155, .slice Ao25 t156.length co25, .bool t159, .slice Ao26 t160.length co26] (0, 0) _ rfl (by (with_reducible repeat (first | refine blk_drewN ?_ _ | refine blk_drew ?_ | refine blk_alloc ?_ _)); refine blk_put (cs := #[.int .i64 t154, .string t155, .slice Ao25 t156.length co25, .bool t159, .slice none 0 0]) ?_ 4 _ rfl; (with_reducible repeat (first | refine blk_drewN ?_ _ | refine blk_drew ?_ | refine blk_alloc ?_ _)); refine blk_put (cs := #[.int .i64 t154, .string t155, .slice Ao25 t156.length co25, .bool false, .slice none 0 0]) ?_ 3 _ rfl; (with_reducible repeat (first | refine blk_drewN ?_ _ | refine blk_drew ?_ | refine blk_alloc ?_ _)); refine blk_put (cs := #[.int .i64 t154, .string t155, .slice none 0 0, .bool false, .slice none 0 0]) ?_ 2 _ rfl; (with_reducible repeat (first | refine blk_drewN ?_ _ | refine blk_drew ?_ | refine blk_alloc ?_ _)); refine blk_put (cs := #[.int .i64 t154, .string (⟨#[]⟩ : ByteArray), .slice none 0 0, .bool false, .slice none 0 0]) ?_ 1 _ rfl; (with_reducible repeat (first | refine blk_drewN ?_ _ | refine blk_drew ?_ | refine blk_alloc ?_ _)); refine blk_put (cs := #[.int .i64 0, .string (⟨#[]⟩ : ByteArray), .slice none 0 0, .bool false, .slice none 0 0]) ?_ 0 _ rfl; (with_reducible repeat (first | refine blk_drewN ?_ _ | refine blk_drew ?_ | refine blk_alloc ?_ _)); exact BK152.out) Tryd.underlying30 rfl (by kernel_rfl)) rfl ?_
 first | exact ⟨_, _, by first | rfl | (simp [errW_none, errW_some] <;> rfl) | (simp [*, errW_none, errW_some] <;> rfl) | (simp [errW_none, errW_some] <;> exact ⟨rfl, rfl⟩) | (simp [*, errW_none, errW_some] <;> exact ⟨rfl, rfl⟩), by (with_reducible repeat (first | apply Kd.R_alloc | apply Kd.R_drewN | apply Kd.R_drew)); exact Kd.R_mono (Kd.R_far (p := ⟨gb152, 4, none⟩) (Kd.R_far (p := ⟨gb152, 3, none⟩) (Kd.R_far (p := ⟨gb152, 2, none⟩) (Kd.R_far (p := ⟨gb152, 1, none⟩) (Kd.R_far (p := ⟨gb152, 0, none⟩) (Kd.R_types HO158.out BK152.out (by decide)) (fun _ hk => hk.2) (.int .i64 t154)) (fun _ hk => hk.2) (.string t155)) (fun _ hk => hk.2) (.slice Ao25 t156.length co25)) (fun _ hk => hk.2) (.bool t159)) (fun _ hk => hk.2) (.slice Ao26 t160.length co26)) (fun _ hk => trivial), by (with_reducible repeat (first | apply Kd.R_alloc | apply Kd.R_drewN | apply Kd.R_drew)); exact Kd.R_mono (Kd.R_far (p := ⟨gb152, 4, none⟩) (Kd.R_far (p := ⟨gb152, 3, none⟩) (Kd.R_far (p := ⟨gb152, 2, none⟩) (Kd.R_far (p := ⟨gb152, 1, none⟩) (Kd.R_far (p := ⟨gb152, 0, none⟩) (Kd.R_mono HO162.out (fun k_ hk => (⟨hk, hk.2.1⟩ : _ ∧ k_ ≠ gb152))) (fun _ hk => hk.2) (.int .i64 t154)) (fun _ hk => hk.2) (.string t155)) (fun _ hk => hk.2) (.slice Ao25 t156.length co25)) (fun _ hk => hk.2) (.bool t159)) (fun _ hk => hk.2) (.slice Ao26 t160.length co26)) (fun _ hk => hk.1.1), by repeat (first | (with_reducible first | exact HB.out | apply below_alloc | apply pw_below_drewN | apply below_drew1 | refine below_set ?_ GE152.out | refine below_set ?_ GE165.out) | exact HB.out)⟩ | exact ⟨_, _, by first | rfl | (simp [errW_none, errW_some] <;> rfl) | (simp [*, errW_none, errW_some] <;> rfl) | (simp [errW_none, errW_some] <;> exact ⟨rfl, rfl⟩) | (simp [*, errW_none, errW_some] <;> exact ⟨rfl, rfl⟩), by (with_reducible repeat (first | apply Kd.R_alloc | apply Kd.R_drewN | apply Kd.R_drew)); exact Kd.R_mono (Kd.R_far (p := ⟨gb152, 4, none⟩) (Kd.R_far (p := ⟨gb152, 3, none⟩) (Kd.R_far (p := ⟨gb152, 2, none⟩) (Kd.R_far (p := ⟨gb152, 1, none⟩) (Kd.R_far (p := ⟨gb152, 0, none⟩) (Kd.R_types HO158.out BK152.out (by decide)) (fun _ hk => hk.2) (.int .i64 t154)) (fun _ hk => hk.2) (.string t155)) (fun _ hk => hk.2) (.slice Ao25 t156.length co25)) (fun _ hk => hk.2) (.bool t159)) (fun _ hk => hk.2) (.slice Ao26 t160.length co26)) (fun _ hk => trivial), by (with_reducible repeat (first | apply Kd.R_alloc | apply Kd.R_drewN | apply Kd.R_drew)); exact Kd.R_mono (Kd.R_far (p := ⟨gb152, 4, none⟩) (Kd.R_far (p := ⟨gb152, 3, none⟩) (Kd.R_far (p := ⟨gb152, 2, none⟩) (Kd.R_far (p := ⟨gb152, 1, none⟩) (Kd.R_far (p := ⟨gb152, 0, none⟩) (Kd.R_mono (Kd.R_drewN HO162.out _) (fun k_ hk => (⟨hk, hk.2.1⟩ : _ ∧ k_ ≠ gb152))) (fun _ hk => hk.2) (.int .i64 t154)) (fun _ hk => hk.2) (.string t155)) (fun _ hk => hk.2) (.slice Ao25 t156.length co25)) (fun _ hk => hk.2) (.bool t159)) (fun _ hk => hk.2) (.slice Ao26 t160.length co26)) (fun _ hk => hk.1.1), by repeat (first | (with_reducible first | exact HB.out | apply below_alloc | apply pw_below_drewN | apply below_drew1 | refine below_set ?_ GE152.out | refine below_set ?_ GE165.out) | exact HB.out)⟩
end Go.Proofs.YtnajijaachgipaaDoor.PR
end
section
namespace Go.Proofs.YtnajijaachgipaaDoor.PR
open Go.RowKit Go.Proofs.YtnajijaachgipaaDoorW.PrintWords Go.Proofs.YtnajijaachgipaaDoorW.PrintLast Go.Proofs.YtnajijaachgipaaDoorW.PrintMore
attribute [local go_sem] max2_int min2_int max_two min_two max_three min_three max_four min_four   -- for this text's walks alone
set_option linter.unusedVariables false
set_option linter.unusedSimpArgs false
/-! ### fastjson_skipWSSlow: function 69 -/
mutual
def fastjson_skipWSSlow.j0 : Nat → ByteArray → Bool → Option (ByteArray)
 | 0, _, _ => none
 | k + 1, x0, x26 => if x26 = true then (some x0) else (fastjson_skipWSSlow.l0 k x0 1)
def fastjson_skipWSSlow.l0 : Nat → ByteArray → Int → Option (ByteArray)
 | 0, _, _ => none
 | k + 1, x0, x3 => if x3 < (x0.size : Int) then (if 0 ≤ x3 then (if (bt x0 x3) = 32 then (fastjson_skipWSSlow.l0 k x0 (wrap64 (x3 + 1))) else (if (bt x0 x3) = 10 then (fastjson_skipWSSlow.l0 k x0 (wrap64 (x3 + 1))) else (if (bt x0 x3) = 9 then (fastjson_skipWSSlow.l0 k x0 (wrap64 (x3 + 1))) else (if (bt x0 x3) = 13 then (fastjson_skipWSSlow.l0 k x0 (wrap64 (x3 + 1))) else (if x3 ≤ (x0.size : Int) then (some (x0.extract (x3 : Int).toNat x0.size)) else (none)))))) else (none)) else (some (⟨#[]⟩ : ByteArray))
end
def fastjson_skipWSSlow.f (k : Nat) (a0 : ByteArray) : Option (ByteArray) := if (a0.size : Int) = 0 then (fastjson_skipWSSlow.j0 k a0 true) else (if 0 < (a0.size : Int) then (if (bt a0 0) = 32 then (fastjson_skipWSSlow.j0 k a0 false) else (if (bt a0 0) = 10 then (fastjson_skipWSSlow.j0 k a0 false) else (if (bt a0 0) = 9 then (fastjson_skipWSSlow.j0 k a0 false) else (fastjson_skipWSSlow.j0 k a0 ((bt a0 0) != 13))))) else (none))
theorem fastjson_skipWSSlow.mono_l : ∀ k, (∀ y0 y1, LeO (fastjson_skipWSSlow.j0 k y0 y1) (fastjson_skipWSSlow.j0 (k + 1) y0 y1)) ∧ (∀ y0 y1, LeO (fastjson_skipWSSlow.l0 k y0 y1) (fastjson_skipWSSlow.l0 (k + 1) y0 y1))
 | 0 => ⟨fun _ _ r h => by simp [fastjson_skipWSSlow.j0] at h, fun _ _ r h => by simp [fastjson_skipWSSlow.l0] at h⟩
 | k + 1 => by
  obtain ⟨ih0, ih1⟩ := fastjson_skipWSSlow.mono_l k
  refine ⟨?_, ?_⟩
  ·intro y0 y1
   unfold fastjson_skipWSSlow.j0
   repeat' first
   | (with_reducible exact ih0 _ _)
   | (with_reducible exact ih1 _ _)
   | (with_reducible exact LeO.refl _)
   | (with_reducible exact LeO.none _)
   | (with_reducible refine LeO.ite ?_ ?_)
   | (with_reducible refine LeO.bind ?_ (fun _ => ?_))
   | exact ih0 _ _
   | exact ih1 _ _
   | exact LeO.none _
   | refine LeO.ite ?_ ?_
   | refine LeO.bind ?_ (fun _ => ?_)
  intro y0 y1
  unfold fastjson_skipWSSlow.l0
  repeat' first
  | (with_reducible exact ih0 _ _)
  | (with_reducible exact ih1 _ _)
  | (with_reducible exact LeO.refl _)
  | (with_reducible exact LeO.none _)
  | (with_reducible refine LeO.ite ?_ ?_)
  | (with_reducible refine LeO.bind ?_ (fun _ => ?_))
  | exact ih0 _ _
  | exact ih1 _ _
  | exact LeO.none _
  | refine LeO.ite ?_ ?_
  | refine LeO.bind ?_ (fun _ => ?_)
theorem fastjson_skipWSSlow.mono : ∀ a0 k, LeO (fastjson_skipWSSlow.f k a0) (fastjson_skipWSSlow.f (k + 1) a0) := by
 intro a0 k
 obtain ⟨ih0, ih1⟩ := fastjson_skipWSSlow.mono_l k
 unfold fastjson_skipWSSlow.f
 repeat' first
   | (with_reducible exact ih0 _ _)
   | (with_reducible exact ih1 _ _)
   | (with_reducible exact LeO.refl _)
   | (with_reducible exact LeO.none _)
   | (with_reducible refine LeO.ite ?_ ?_)
   | (with_reducible refine LeO.bind ?_ (fun _ => ?_))
   | exact ih0 _ _
   | exact ih1 _ _
   | exact LeO.none _
   | refine LeO.ite ?_ ?_
   | refine LeO.bind ?_ (fun _ => ?_)
set_option maxHeartbeats 8000000 in
set_option maxRecDepth 100000 in
theorem fastjson_skipWSSlow.calls (k : Nat) (a0 : ByteArray) (r : ByteArray) (w : World) (h : fastjson_skipWSSlow.f k a0 = some r) :
  Calls Tryd.prog 69 #[.string a0] w fun e w' => e = .returned (.string r) ∧ Drawn0 w w' := by
 have H : (if (a0.size : Int) = 0 then (fastjson_skipWSSlow.j0 k a0 true) else (if 0 < (a0.size : Int) then (if (bt a0 0) = 32 then (fastjson_skipWSSlow.j0 k a0 false) else (if (bt a0 0) = 10 then (fastjson_skipWSSlow.j0 k a0 false) else (if (bt a0 0) = 9 then (fastjson_skipWSSlow.j0 k a0 false) else (fastjson_skipWSSlow.j0 k a0 ((bt a0 0) != 13))))) else (none))) = some r := h
 clear h
 have HC2 := Aside0.mk H
 clear H
 go_enter Tryd.func69, Tryd.ntmps69
 go_upto_region 1 with (fail)
 go_cut [26] (fun v26 wc => ∃ (kq : Nat) (x26_1 : Bool), v26 = .bool x26_1 ∧ Aside0 (fastjson_skipWSSlow.j0 kq a0 x26_1 = some r) ∧ Aside0 (kq ≤ k) ∧ Drawn0 w wc)
 case first =>
  have H := HC2.out
  clear HC2
  by_cases c3 : (a0.size : Int) = 0
  ·rw [if_pos c3] at H
   have c3b0 : ((a0.size : Int) == 0) = true := beq_iff_eq.mpr c3
   have c3b1 : ((a0.size : Int) != 0) = false := bne_eq_false_iff_eq.mpr c3
   clear c3
   (first | rw [c3b0] | (simp only [i64_w, i32_w]; rw [c3b0]) | rw [c3b1] | skip)
   have H' := Aside0.mk H
   clear H
   go_wp2
   go_meet
   case rel => exact ⟨_, (true), (by first | rfl | (simp; done) | (simp [*]; done)), H', ⟨by first | omega | exact Nat.le_refl _⟩, by repeat (first | exact Drawn0.refl _ | apply Drawn0.step)⟩
  rw [if_neg c3] at H
  have c3b0 : ((a0.size : Int) == 0) = false := beq_eq_false_iff_ne.mpr c3
  have c3b1 : ((a0.size : Int) != 0) = true := bne_iff_ne.mpr c3
  (first | rw [c3b0] | (simp only [i64_w, i32_w]; rw [c3b0]) | rw [c3b1] | skip)
  by_cases c4 : 0 < (a0.size : Int)
  ·rw [if_pos c4] at H
   have c4b0 : decide (0 < (a0.size : Int)) = true := decide_eq_true c4
   have c4b1 : decide (0 < a0.size) = true := decide_eq_true (by omega)
   clear c4
   by_cases c6 : (bt a0 0) = 32
   ·rw [if_pos c6] at H
    have c6b0 : ((bt a0 0) == 32) = true := beq_iff_eq.mpr c6
    have c6b1 : ((bt a0 0) != 32) = false := bne_eq_false_iff_eq.mpr c6
    clear c6
    have H' := Aside0.mk H
    clear H
    have p5 : 0 ≤ (0 : Int) := (by omega)
    have q5 : 0 < a0.size := (by have : (0 : Int) < (a0.size : Int) := of_decide_eq_true (by assumption); omega)
    have hx5 : ∀ h : 0 < a0.size, ((a0[0]'h).toNat : Int) = bt a0 0 := bt_at a0 0
    clear p5
    have qi5 : (0 < (a0.size : Int)) = True := eq_true (of_decide_eq_true (by assumption))
    replace q5 := eq_true q5
    go_wp2
    go_meet
    case rel => exact ⟨_, (false), (by first | rfl | (simp; done) | (simp [*]; done)), H', ⟨by first | omega | exact Nat.le_refl _⟩, by repeat (first | exact Drawn0.refl _ | apply Drawn0.step)⟩
   rw [if_neg c6] at H
   have c6b0 : ((bt a0 0) == 32) = false := beq_eq_false_iff_ne.mpr c6
   have c6b1 : ((bt a0 0) != 32) = true := bne_iff_ne.mpr c6
   by_cases c8 : (bt a0 0) = 10
   ·rw [if_pos c8] at H
    have c8b0 : ((bt a0 0) == 10) = true := beq_iff_eq.mpr c8
    have c8b1 : ((bt a0 0) != 10) = false := bne_eq_false_iff_eq.mpr c8
    clear c8
    have H' := Aside0.mk H
    clear H
    have p5 : 0 ≤ (0 : Int) := (by omega)
    have q5 : 0 < a0.size := (by have : (0 : Int) < (a0.size : Int) := of_decide_eq_true (by assumption); omega)
    have hx5 : ∀ h : 0 < a0.size, ((a0[0]'h).toNat : Int) = bt a0 0 := bt_at a0 0
    clear p5
    have qi5 : (0 < (a0.size : Int)) = True := eq_true (of_decide_eq_true (by assumption))
    replace q5 := eq_true q5
    have p7 : 0 ≤ (0 : Int) := (by omega)
    have q7 : 0 < a0.size := (by have : (0 : Int) < (a0.size : Int) := of_decide_eq_true (by assumption); omega)
    have hx7 : ∀ h : 0 < a0.size, ((a0[0]'h).toNat : Int) = bt a0 0 := bt_at a0 0
    clear p7
    have qi7 : (0 < (a0.size : Int)) = True := eq_true (of_decide_eq_true (by assumption))
    replace q7 := eq_true q7
    go_wp2
    go_meet
    case rel => exact ⟨_, (false), (by first | rfl | (simp; done) | (simp [*]; done)), H', ⟨by first | omega | exact Nat.le_refl _⟩, by repeat (first | exact Drawn0.refl _ | apply Drawn0.step)⟩
   rw [if_neg c8] at H
   have c8b0 : ((bt a0 0) == 10) = false := beq_eq_false_iff_ne.mpr c8
   have c8b1 : ((bt a0 0) != 10) = true := bne_iff_ne.mpr c8
   by_cases c10 : (bt a0 0) = 9
   ·rw [if_pos c10] at H
    have c10b0 : ((bt a0 0) == 9) = true := beq_iff_eq.mpr c10
    have c10b1 : ((bt a0 0) != 9) = false := bne_eq_false_iff_eq.mpr c10
    clear c10
    have H' := Aside0.mk H
    clear H
    have p5 : 0 ≤ (0 : Int) := (by omega)
    have q5 : 0 < a0.size := (by have : (0 : Int) < (a0.size : Int) := of_decide_eq_true (by assumption); omega)
    have hx5 : ∀ h : 0 < a0.size, ((a0[0]'h).toNat : Int) = bt a0 0 := bt_at a0 0
    clear p5
    have qi5 : (0 < (a0.size : Int)) = True := eq_true (of_decide_eq_true (by assumption))
    replace q5 := eq_true q5
    have p7 : 0 ≤ (0 : Int) := (by omega)
    have q7 : 0 < a0.size := (by have : (0 : Int) < (a0.size : Int) := of_decide_eq_true (by assumption); omega)
    have hx7 : ∀ h : 0 < a0.size, ((a0[0]'h).toNat : Int) = bt a0 0 := bt_at a0 0
    clear p7
    have qi7 : (0 < (a0.size : Int)) = True := eq_true (of_decide_eq_true (by assumption))
    replace q7 := eq_true q7
    have p9 : 0 ≤ (0 : Int) := (by omega)
    have q9 : 0 < a0.size := (by have : (0 : Int) < (a0.size : Int) := of_decide_eq_true (by assumption); omega)
    have hx9 : ∀ h : 0 < a0.size, ((a0[0]'h).toNat : Int) = bt a0 0 := bt_at a0 0
    clear p9
    have qi9 : (0 < (a0.size : Int)) = True := eq_true (of_decide_eq_true (by assumption))
    replace q9 := eq_true q9
    go_wp2
    go_meet
    case rel => exact ⟨_, (false), (by first | rfl | (simp; done) | (simp [*]; done)), H', ⟨by first | omega | exact Nat.le_refl _⟩, by repeat (first | exact Drawn0.refl _ | apply Drawn0.step)⟩
   rw [if_neg c10] at H
   have c10b0 : ((bt a0 0) == 9) = false := beq_eq_false_iff_ne.mpr c10
   have c10b1 : ((bt a0 0) != 9) = true := bne_iff_ne.mpr c10
   have H' := Aside0.mk H
   clear H
   have p5 : 0 ≤ (0 : Int) := (by omega)
   have q5 : 0 < a0.size := (by have : (0 : Int) < (a0.size : Int) := of_decide_eq_true (by assumption); omega)
   have hx5 : ∀ h : 0 < a0.size, ((a0[0]'h).toNat : Int) = bt a0 0 := bt_at a0 0
   clear p5
   have qi5 : (0 < (a0.size : Int)) = True := eq_true (of_decide_eq_true (by assumption))
   replace q5 := eq_true q5
   have p7 : 0 ≤ (0 : Int) := (by omega)
   have q7 : 0 < a0.size := (by have : (0 : Int) < (a0.size : Int) := of_decide_eq_true (by assumption); omega)
   have hx7 : ∀ h : 0 < a0.size, ((a0[0]'h).toNat : Int) = bt a0 0 := bt_at a0 0
   clear p7
   have qi7 : (0 < (a0.size : Int)) = True := eq_true (of_decide_eq_true (by assumption))
   replace q7 := eq_true q7
   have p9 : 0 ≤ (0 : Int) := (by omega)
   have q9 : 0 < a0.size := (by have : (0 : Int) < (a0.size : Int) := of_decide_eq_true (by assumption); omega)
   have hx9 : ∀ h : 0 < a0.size, ((a0[0]'h).toNat : Int) = bt a0 0 := bt_at a0 0
   clear p9
   have qi9 : (0 < (a0.size : Int)) = True := eq_true (of_decide_eq_true (by assumption))
   replace q9 := eq_true q9
   have p11 : 0 ≤ (0 : Int) := (by omega)
   have q11 : 0 < a0.size := (by have : (0 : Int) < (a0.size : Int) := of_decide_eq_true (by assumption); omega)
   have hx11 : ∀ h : 0 < a0.size, ((a0[0]'h).toNat : Int) = bt a0 0 := bt_at a0 0
   clear p11
   have qi11 : (0 < (a0.size : Int)) = True := eq_true (of_decide_eq_true (by assumption))
   replace q11 := eq_true q11
   go_wp2
   go_meet
   case rel => exact ⟨_, (((bt a0 0) != 13)), (by first | rfl | (simp; done) | (simp [*]; done)), H', ⟨by first | omega | exact Nat.le_refl _⟩, by repeat (first | exact Drawn0.refl _ | apply Drawn0.step)⟩
  rw [if_neg c4] at H
  exact absurd H (by simp)
 case rest =>
  clear HC2
  try clear c1
  try clear p1
  try clear q1
  try clear hx1
  try clear qi1
  try clear p2
  try clear c3
  try clear c3b0
  try clear c3b1
  try clear c4
  try clear c4b0
  try clear c4b1
  try clear p5
  try clear q5
  try clear hx5
  try clear qi5
  try clear c6
  try clear c6b0
  try clear c6b1
  try clear p7
  try clear q7
  try clear hx7
  try clear qi7
  try clear c8
  try clear c8b0
  try clear c8b1
  try clear p9
  try clear q9
  try clear hx9
  try clear qi9
  try clear c10
  try clear c10b0
  try clear c10b1
  try clear p11
  try clear q11
  try clear hx11
  try clear qi11
  try clear p11
  try clear p5
  try clear p7
  try clear p9
  try clear q11
  try clear q5
  try clear q7
  try clear q9
  obtain ⟨kq, x26_1, rfl, HA, HJ1, ⟨mc1, rfl⟩⟩ := hcut
  cases kq with
  | zero => exact absurd HA.out (by simp [fastjson_skipWSSlow.j0])
  | succ kj1 =>
   have H := HA.out
   clear HA
   simp only [fastjson_skipWSSlow.j0] at H
   by_cases c12 : x26_1 = true
   ·subst c12
    have H1 : (some a0) = some r := by rw [if_pos rfl] at H; exact H
    clear H
    have H := H1
    clear H1
    obtain rfl := Option.some.inj H
    go_wp2
    go_ret
    exact ⟨by first | rfl | (simp; done) | (simp [*]; done), by repeat (first | exact Drawn0.refl _ | apply Drawn0.step)⟩
   replace c12 := Bool.eq_false_iff.mpr c12
   subst c12
   have H1 : (fastjson_skipWSSlow.l0 kj1 a0 1) = some r := by rw [if_neg (show ¬ (false = true) by decide)] at H; exact H
   clear H
   have H := H1
   clear H1
   have H' := Aside0.mk H
   clear H
   go_wp2
   try simp only [Act.put, List.setIfInBounds_toArray, List.set_cons_succ, List.set_cons_zero]
   go_loopg [3] kj1 (fun kq v3 w' => ∃ (x3_2 : Int), v3 = .int .i64 x3_2 ∧ Aside0 (fastjson_skipWSSlow.l0 kq a0 x3_2 = some r) ∧ Aside0 (kq ≤ kj1) ∧ Drawn0 w w')
   case atStart => exact ⟨(1), (by first | rfl | (simp; done) | (simp [*]; done)), H', ⟨Nat.le_refl _⟩, by repeat (first | exact Drawn0.refl _ | apply Drawn0.step)⟩
   case round =>
    clear H'
    try clear c1
    try clear p1
    try clear q1
    try clear hx1
    try clear qi1
    try clear p2
    try clear c3
    try clear c3b0
    try clear c3b1
    try clear c4
    try clear c4b0
    try clear c4b1
    try clear p5
    try clear q5
    try clear hx5
    try clear qi5
    try clear c6
    try clear c6b0
    try clear c6b1
    try clear p7
    try clear q7
    try clear hx7
    try clear qi7
    try clear c8
    try clear c8b0
    try clear c8b1
    try clear p9
    try clear q9
    try clear hx9
    try clear qi9
    try clear c10
    try clear c10b0
    try clear c10b1
    try clear p11
    try clear q11
    try clear hx11
    try clear qi11
    try clear c12
    try clear p1
    try clear p11
    try clear p2
    try clear p5
    try clear p7
    try clear p9
    try clear q1
    try clear q11
    try clear q5
    try clear q7
    try clear q9
    obtain ⟨x3_2, rfl, HA, HK2, ⟨m2, rfl⟩⟩ := hrel
    cases gk with
    | zero => exact absurd HA.out (by simp [fastjson_skipWSSlow.l0])
    | succ k2 =>
     have H := HA.out
     clear HA
     simp only [fastjson_skipWSSlow.l0] at H
     by_cases c13 : x3_2 < (a0.size : Int)
     ·rw [if_pos c13] at H
      have c13b0 : decide (x3_2 < (a0.size : Int)) = true := decide_eq_true c13
      clear c13
      by_cases c14 : 0 ≤ x3_2
      ·rw [if_pos c14] at H
       have c14b0 : decide (0 ≤ x3_2) = true := decide_eq_true c14
       clear c14
       by_cases c16 : (bt a0 x3_2) = 32
       ·rw [if_pos c16] at H
        have c16b0 : ((bt a0 x3_2) == 32) = true := beq_iff_eq.mpr c16
        have c16b1 : ((bt a0 x3_2) != 32) = false := bne_eq_false_iff_eq.mpr c16
        clear c16
        have H' := Aside0.mk H
        clear H
        have p15 : 0 ≤ (x3_2 : Int) := of_decide_eq_true (by assumption)
        have q15 : x3_2 < (a0.size : Int) := of_decide_eq_true (by assumption)
        have hx15 := bt_at a0 x3_2
        replace p15 := eq_true p15
        replace q15 := eq_true q15
        go_wp2
        go_roundg k2
        case measure => have := HJ1.out; have := HK2.out; omega
        case rel => exact ⟨(wrap64 (x3_2 + 1)), (by first | rfl | (simp; done) | (simp [*]; done)), H', ⟨by have := HJ1.out; have := HK2.out; omega⟩, by repeat (first | exact Drawn0.refl _ | apply Drawn0.step)⟩
       rw [if_neg c16] at H
       have c16b0 : ((bt a0 x3_2) == 32) = false := beq_eq_false_iff_ne.mpr c16
       have c16b1 : ((bt a0 x3_2) != 32) = true := bne_iff_ne.mpr c16
       by_cases c18 : (bt a0 x3_2) = 10
       ·rw [if_pos c18] at H
        have c18b0 : ((bt a0 x3_2) == 10) = true := beq_iff_eq.mpr c18
        have c18b1 : ((bt a0 x3_2) != 10) = false := bne_eq_false_iff_eq.mpr c18
        clear c18
        have H' := Aside0.mk H
        clear H
        have p15 : 0 ≤ (x3_2 : Int) := of_decide_eq_true (by assumption)
        have q15 : x3_2 < (a0.size : Int) := of_decide_eq_true (by assumption)
        have hx15 := bt_at a0 x3_2
        replace p15 := eq_true p15
        replace q15 := eq_true q15
        have p17 : 0 ≤ (x3_2 : Int) := of_decide_eq_true (by assumption)
        have q17 : x3_2 < (a0.size : Int) := of_decide_eq_true (by assumption)
        have hx17 := bt_at a0 x3_2
        replace p17 := eq_true p17
        replace q17 := eq_true q17
        go_wp2
        go_roundg k2
        case measure => have := HJ1.out; have := HK2.out; omega
        case rel => exact ⟨(wrap64 (x3_2 + 1)), (by first | rfl | (simp; done) | (simp [*]; done)), H', ⟨by have := HJ1.out; have := HK2.out; omega⟩, by repeat (first | exact Drawn0.refl _ | apply Drawn0.step)⟩
       rw [if_neg c18] at H
       have c18b0 : ((bt a0 x3_2) == 10) = false := beq_eq_false_iff_ne.mpr c18
       have c18b1 : ((bt a0 x3_2) != 10) = true := bne_iff_ne.mpr c18
       by_cases c20 : (bt a0 x3_2) = 9
       ·rw [if_pos c20] at H
        have c20b0 : ((bt a0 x3_2) == 9) = true := beq_iff_eq.mpr c20
        have c20b1 : ((bt a0 x3_2) != 9) = false := bne_eq_false_iff_eq.mpr c20
        clear c20
        have H' := Aside0.mk H
        clear H
        have p15 : 0 ≤ (x3_2 : Int) := of_decide_eq_true (by assumption)
        have q15 : x3_2 < (a0.size : Int) := of_decide_eq_true (by assumption)
        have hx15 := bt_at a0 x3_2
        replace p15 := eq_true p15
        replace q15 := eq_true q15
        have p17 : 0 ≤ (x3_2 : Int) := of_decide_eq_true (by assumption)
        have q17 : x3_2 < (a0.size : Int) := of_decide_eq_true (by assumption)
        have hx17 := bt_at a0 x3_2
        replace p17 := eq_true p17
        replace q17 := eq_true q17
        have p19 : 0 ≤ (x3_2 : Int) := of_decide_eq_true (by assumption)
        have q19 : x3_2 < (a0.size : Int) := of_decide_eq_true (by assumption)
        have hx19 := bt_at a0 x3_2
        replace p19 := eq_true p19
        replace q19 := eq_true q19
        go_wp2
        go_roundg k2
        case measure => have := HJ1.out; have := HK2.out; omega
        case rel => exact ⟨(wrap64 (x3_2 + 1)), (by first | rfl | (simp; done) | (simp [*]; done)), H', ⟨by have := HJ1.out; have := HK2.out; omega⟩, by repeat (first | exact Drawn0.refl _ | apply Drawn0.step)⟩
       rw [if_neg c20] at H
       have c20b0 : ((bt a0 x3_2) == 9) = false := beq_eq_false_iff_ne.mpr c20
       have c20b1 : ((bt a0 x3_2) != 9) = true := bne_iff_ne.mpr c20
       by_cases c22 : (bt a0 x3_2) = 13
       ·rw [if_pos c22] at H
        have c22b0 : ((bt a0 x3_2) == 13) = true := beq_iff_eq.mpr c22
        have c22b1 : ((bt a0 x3_2) != 13) = false := bne_eq_false_iff_eq.mpr c22
        clear c22
        have H' := Aside0.mk H
        clear H
        have p15 : 0 ≤ (x3_2 : Int) := of_decide_eq_true (by assumption)
        have q15 : x3_2 < (a0.size : Int) := of_decide_eq_true (by assumption)
        have hx15 := bt_at a0 x3_2
        replace p15 := eq_true p15
        replace q15 := eq_true q15
        have p17 : 0 ≤ (x3_2 : Int) := of_decide_eq_true (by assumption)
        have q17 : x3_2 < (a0.size : Int) := of_decide_eq_true (by assumption)
        have hx17 := bt_at a0 x3_2
        replace p17 := eq_true p17
        replace q17 := eq_true q17
        have p19 : 0 ≤ (x3_2 : Int) := of_decide_eq_true (by assumption)
        have q19 : x3_2 < (a0.size : Int) := of_decide_eq_true (by assumption)
        have hx19 := bt_at a0 x3_2
        replace p19 := eq_true p19
        replace q19 := eq_true q19
        have p21 : 0 ≤ (x3_2 : Int) := of_decide_eq_true (by assumption)
        have q21 : x3_2 < (a0.size : Int) := of_decide_eq_true (by assumption)
        have hx21 := bt_at a0 x3_2
        replace p21 := eq_true p21
        replace q21 := eq_true q21
        go_wp2
        go_roundg k2
        case measure => have := HJ1.out; have := HK2.out; omega
        case rel => exact ⟨(wrap64 (x3_2 + 1)), (by first | rfl | (simp; done) | (simp [*]; done)), H', ⟨by have := HJ1.out; have := HK2.out; omega⟩, by repeat (first | exact Drawn0.refl _ | apply Drawn0.step)⟩
       rw [if_neg c22] at H
       have c22b0 : ((bt a0 x3_2) == 13) = false := beq_eq_false_iff_ne.mpr c22
       have c22b1 : ((bt a0 x3_2) != 13) = true := bne_iff_ne.mpr c22
       have c23b0 := eq_true (of_decide_eq_true (by assumption) : 0 ≤ x3_2)
       by_cases c24 : x3_2 ≤ (a0.size : Int)
       ·rw [if_pos c24] at H
        have c24b0 := eq_true c24
        have c24b1 : decide (x3_2 ≤ (a0.size : Int)) = true := decide_eq_true c24
        clear c24
        obtain ⟨js25, hjs25⟩ : ∃ z_ : ByteArray, (a0.extract (x3_2 : Int).toNat a0.size) = z_ := ⟨_, rfl⟩
        replace H : (some js25) = some r := by first | (rw [hjs25] at H; exact H) | (simp only [hjs25] at H ⊢; exact H)
        obtain rfl := Option.some.inj H
        have p15 : 0 ≤ (x3_2 : Int) := of_decide_eq_true (by assumption)
        have q15 : x3_2 < (a0.size : Int) := of_decide_eq_true (by assumption)
        have hx15 := bt_at a0 x3_2
        replace p15 := eq_true p15
        replace q15 := eq_true q15
        have p17 : 0 ≤ (x3_2 : Int) := of_decide_eq_true (by assumption)
        have q17 : x3_2 < (a0.size : Int) := of_decide_eq_true (by assumption)
        have hx17 := bt_at a0 x3_2
        replace p17 := eq_true p17
        replace q17 := eq_true q17
        have p19 : 0 ≤ (x3_2 : Int) := of_decide_eq_true (by assumption)
        have q19 : x3_2 < (a0.size : Int) := of_decide_eq_true (by assumption)
        have hx19 := bt_at a0 x3_2
        replace p19 := eq_true p19
        replace q19 := eq_true q19
        have p21 : 0 ≤ (x3_2 : Int) := of_decide_eq_true (by assumption)
        have q21 : x3_2 < (a0.size : Int) := of_decide_eq_true (by assumption)
        have hx21 := bt_at a0 x3_2
        replace p21 := eq_true p21
        replace q21 := eq_true q21
        try have hcs26 := fun W_ : World => run_slice_string_l (P := Tryd.prog) W_ 9 a0 Tryd.underlying9 .i64 x3_2 (of_decide_eq_true (by assumption)) (of_decide_eq_true (by assumption))
        (try simp only [hjs25] at hcs26)
        go_wp2
        go_ret
        exact ⟨by first | rfl | (simp; done) | (simp [*]; done), by repeat (first | exact Drawn0.refl _ | apply Drawn0.step)⟩
       rw [if_neg c24] at H
       exact absurd H (by simp)
      rw [if_neg c14] at H
      exact absurd H (by simp)
     rw [if_neg c13] at H
     have c13b0 : decide (x3_2 < (a0.size : Int)) = false := decide_eq_false c13
     clear c13
     obtain rfl := Option.some.inj H
     go_wp2
     go_ret
     exact ⟨by first | rfl | (simp; done) | (simp [*]; done), by repeat (first | exact Drawn0.refl _ | apply Drawn0.step)⟩
end Go.Proofs.YtnajijaachgipaaDoor.PR
end
section
namespace Go.Proofs.YtnajijaachgipaaDoor.PR
open Go.RowKit Go.Proofs.YtnajijaachgipaaDoorW.PrintWords Go.Proofs.YtnajijaachgipaaDoorW.PrintLast Go.Proofs.YtnajijaachgipaaDoorW.PrintMore
attribute [local go_sem] max2_int min2_int max_two min_two max_three min_three max_four min_four   -- for this text's walks alone
set_option linter.unusedVariables false
set_option linter.unusedSimpArgs false
/-! ### fastjson_skipWS: function 47 -/
def fastjson_skipWS.f (k : Nat) (a0 : ByteArray) : Option (ByteArray) := if (a0.size : Int) = 0 then (some a0) else (if 0 < (a0.size : Int) then (if (bt a0 0) > 32 then (some a0) else ((fastjson_skipWSSlow.f k a0).bind fun t167 => (some t167))) else (none))
theorem fastjson_skipWS.mono : ∀ a0 k, LeO (fastjson_skipWS.f k a0) (fastjson_skipWS.f (k + 1) a0) := by
 intro a0 k
 unfold fastjson_skipWS.f
 repeat' first
   | (with_reducible exact fastjson_skipWSSlow.mono _ _)
   | (with_reducible exact LeO.refl _)
   | (with_reducible exact LeO.none _)
   | (with_reducible refine LeO.ite ?_ ?_)
   | (with_reducible refine LeO.bind ?_ (fun _ => ?_))
   | exact fastjson_skipWSSlow.mono _ _
   | exact LeO.none _
   | refine LeO.ite ?_ ?_
   | refine LeO.bind ?_ (fun _ => ?_)
set_option maxHeartbeats 8000000 in
set_option maxRecDepth 100000 in
theorem fastjson_skipWS.calls (k : Nat) (a0 : ByteArray) (r : ByteArray) (w : World) (h : fastjson_skipWS.f k a0 = some r) :
  Calls Tryd.prog 47 #[.string a0] w fun e w' => e = .returned (.string r) ∧ Drawn0 w w' := by
 have H : (if (a0.size : Int) = 0 then (some a0) else (if 0 < (a0.size : Int) then (if (bt a0 0) > 32 then (some a0) else ((fastjson_skipWSSlow.f k a0).bind fun t167 => (some t167))) else (none))) = some r := h
 clear h
 by_cases c2 : (a0.size : Int) = 0
 ·rw [if_pos c2] at H
  have c2b0 : ((a0.size : Int) == 0) = true := beq_iff_eq.mpr c2
  have c2b1 : ((a0.size : Int) != 0) = false := bne_eq_false_iff_eq.mpr c2
  clear c2
  obtain rfl := Option.some.inj H
  go_enter Tryd.func47, Tryd.ntmps47
  go_wp2
  go_ret
  exact ⟨by first | rfl | (simp; done) | (simp [*]; done), by repeat (first | exact Drawn0.refl _ | apply Drawn0.step)⟩
 rw [if_neg c2] at H
 have c2b0 : ((a0.size : Int) == 0) = false := beq_eq_false_iff_ne.mpr c2
 have c2b1 : ((a0.size : Int) != 0) = true := bne_iff_ne.mpr c2
 by_cases c3 : 0 < (a0.size : Int)
 ·rw [if_pos c3] at H
  have c3b0 : decide (0 < (a0.size : Int)) = true := decide_eq_true c3
  have c3b1 : decide (0 < a0.size) = true := decide_eq_true (by omega)
  clear c3
  by_cases c5 : (bt a0 0) > 32
  ·rw [if_pos c5] at H
   have c5b0 : decide (32 < (bt a0 0)) = true := decide_eq_true c5
   clear c5
   obtain rfl := Option.some.inj H
   have p4 : 0 ≤ (0 : Int) := (by omega)
   have q4 : 0 < a0.size := (by have : (0 : Int) < (a0.size : Int) := of_decide_eq_true (by assumption); omega)
   have hx4 : ∀ h : 0 < a0.size, ((a0[0]'h).toNat : Int) = bt a0 0 := bt_at a0 0
   clear p4
   have qi4 : (0 < (a0.size : Int)) = True := eq_true (of_decide_eq_true (by assumption))
   replace q4 := eq_true q4
   go_enter Tryd.func47, Tryd.ntmps47
   go_wp2
   go_ret
   exact ⟨by first | rfl | (simp; done) | (simp [*]; done), by repeat (first | exact Drawn0.refl _ | apply Drawn0.step)⟩
  rw [if_neg c5] at H
  have c5b0 : decide (32 < (bt a0 0)) = false := decide_eq_false c5
  clear c5
  replace H := Option.bind_eq_some_iff.mp H
  obtain ⟨t167, A60, H⟩ := H
  replace H : (some t167) = some r := H
  have A6 := Aside0.mk A60
  clear A60
  obtain rfl := Option.some.inj H
  have p4 : 0 ≤ (0 : Int) := (by omega)
  have q4 : 0 < a0.size := (by have : (0 : Int) < (a0.size : Int) := of_decide_eq_true (by assumption); omega)
  have hx4 : ∀ h : 0 < a0.size, ((a0[0]'h).toNat : Int) = bt a0 0 := bt_at a0 0
  clear p4
  have qi4 : (0 < (a0.size : Int)) = True := eq_true (of_decide_eq_true (by assumption))
  replace q4 := eq_true q4
  go_enter Tryd.func47, Tryd.ntmps47
  go_wp2_with (first | ((with_reducible refine gate_callee (f := 69) rfl ?_); refine goesL_ (some 13) rfl rfl Tryd.func69 (by kernel_rfl) rfl #[.string a0] rfl (by (try simp only [List.map_toArray, List.map_cons, List.map_nil]); first | done | rfl | (simp only [List.length_drop, List.length_take]; rfl)) ?_; (with_reducible refine (fastjson_skipWSSlow.calls k a0 t167 _ A6.out).mono ?_); rintro e w' ⟨rfl, ⟨nd, rfl⟩⟩; refine ⟨_, rfl, ?_⟩))
  go_ret
  exact ⟨by first | rfl | (simp; done) | (simp [*]; done), by repeat (first | exact Drawn0.refl _ | apply Drawn0.step)⟩
 rw [if_neg c3] at H
 exact absurd H (by simp)
end Go.Proofs.YtnajijaachgipaaDoor.PR
end
section
namespace Go.Proofs.YtnajijaachgipaaDoor.PR
open Go.RowKit Go.Proofs.YtnajijaachgipaaDoorW.PrintWords Go.Proofs.YtnajijaachgipaaDoorW.PrintLast Go.Proofs.YtnajijaachgipaaDoorW.PrintMore
attribute [local go_sem] max2_int min2_int max_two min_two max_three min_three max_four min_four   -- for this text's walks alone
set_option linter.unusedVariables false
set_option linter.unusedSimpArgs false
/-! ### errors_New: function 41, by hand -/
def errors_New.f (a0 : ByteArray) : Option (Option Int) := some (some 0)
theorem errors_New.calls (a0 : ByteArray) (r : Option Int) (w : World) (h : errors_New.f a0 = some r) :
  Calls Tryd.prog 41 #[.string a0] w fun e w' => ∃ (et0_ : Nat) (ep0_ : Value), e = .returned (errX et0_ ep0_ r) ∧ Below w.heap.size w w' := by
 obtain rfl := Option.some.inj h
 exact H.errorsNew a0 w
end Go.Proofs.YtnajijaachgipaaDoor.PR
end
section
namespace Go.Proofs.YtnajijaachgipaaDoor.PR
open Go.RowKit Go.Proofs.YtnajijaachgipaaDoorW.PrintWords Go.Proofs.YtnajijaachgipaaDoorW.PrintLast Go.Proofs.YtnajijaachgipaaDoorW.PrintMore
attribute [local go_sem] max2_int min2_int max_two min_two max_three min_three max_four min_four   -- for this text's walks alone
set_option linter.unusedVariables false
set_option linter.unusedSimpArgs false
/-! ### strings_IndexByte: function 87, by hand -/
def strings_IndexByte.f (a0 : ByteArray) (a1 : Int) : Option Int := some (Lib.indexByte a0.data.toList a1.toNat.toUInt8)
set_option maxHeartbeats 1000000 in
set_option maxRecDepth 100000 in
theorem strings_IndexByte.calls (a0 : ByteArray) (a1 : Int) (r : Int) (w : World) (h : strings_IndexByte.f a0 a1 = some r) :
  Calls Tryd.prog 87 #[.string a0, .int .u8 a1] w fun e w' => e = .returned (.int .i64 r) ∧ Drawn0 w w' := by
 obtain rfl := Option.some.inj h
 go_enter Tryd.func87, Tryd.ntmps87
 go_wp2
 rw [run_callFunc_extern Tryd.func121 (by kernel_rfl) (by kernel_rfl) (by kernel_rfl) (e := Extern.BytealgIndexByte.indexByte) (by kernel_rfl), Lib.run_indexByteString]
 simp only [Result.andThen]
 rw [Oper.upon_value]
 go_wp2
 go_ret
 exact ⟨rfl, Drawn0.refl _⟩
end Go.Proofs.YtnajijaachgipaaDoor.PR
end
section
namespace Go.Proofs.YtnajijaachgipaaDoor.PR
open Go.RowKit Go.Proofs.YtnajijaachgipaaDoorW.PrintWords Go.Proofs.YtnajijaachgipaaDoorW.PrintLast Go.Proofs.YtnajijaachgipaaDoorW.PrintMore
attribute [local go_sem] max2_int min2_int max_two min_two max_three min_three max_four min_four   -- for this text's walks alone
set_option linter.unusedVariables false
set_option linter.unusedSimpArgs false
/-! ### fastjson_parseRawString: function 73 -/
mutual
def fastjson_parseRawString.j0 : Nat → ByteArray → Int → Bool → Option (ByteArray × ByteArray × Option Int)
 | 0, _, _, _ => none
 | k + 1, x0, x5, x22 => if x22 = true then (if 0 ≤ x5 then (if x5 ≤ (x0.size : Int) then (if 0 ≤ (wrap64 (x5 + 1)) then (if (wrap64 (x5 + 1)) ≤ (x0.size : Int) then (some (x0.extract 0 (x5 : Int).toNat, x0.extract ((wrap64 (x5 + 1)) : Int).toNat x0.size, none)) else (none)) else (none)) else (none)) else (none)) else (fastjson_parseRawString.l0 k x0 x5 x0)
def fastjson_parseRawString.l0 : Nat → ByteArray → Int → ByteArray → Option (ByteArray × ByteArray × Option Int)
 | 0, _, _, _ => none
 | k + 1, x0, x5, x6 => fastjson_parseRawString.l1 k x0 x5 x6 (wrap64 (x5 - 1))
def fastjson_parseRawString.j3 : Nat → ByteArray → Int → ByteArray → Int → Option (ByteArray × ByteArray × Option Int)
 | 0, _, _, _, _ => none
 | k + 1, x0, x5, x6, x7 => if (Int.tmod (IntKind.u64.wrap (wrap64 (x5 - x7))) 2) = 0 then (if 0 ≤ (wrap64 ((wrap64 ((x6.size : Int) - (x0.size : Int))) + x5)) then (if (wrap64 ((wrap64 ((x6.size : Int) - (x0.size : Int))) + x5)) ≤ (x6.size : Int) then (if 0 ≤ (wrap64 (x5 + 1)) then (if (wrap64 (x5 + 1)) ≤ (x0.size : Int) then (some (x6.extract 0 ((wrap64 ((wrap64 ((x6.size : Int) - (x0.size : Int))) + x5)) : Int).toNat, x0.extract ((wrap64 (x5 + 1)) : Int).toNat x0.size, none)) else (none)) else (none)) else (none)) else (none)) else (if 0 ≤ (wrap64 (x5 + 1)) then (if (wrap64 (x5 + 1)) ≤ (x0.size : Int) then ((strings_IndexByte.f (x0.extract ((wrap64 (x5 + 1)) : Int).toNat x0.size) 34).bind fun t170 => (if t170 < 0 then ((errors_New.f (⟨#[109, 105, 115, 115, 105, 110, 103, 32, 99, 108, 111, 115, 105, 110, 103]⟩ : ByteArray)).bind fun t171 => (some (x6, (⟨#[]⟩ : ByteArray), t171))) else (if t170 = 0 then (if 0 ≤ (wrap64 ((wrap64 ((x6.size : Int) - ((x0.extract ((wrap64 (x5 + 1)) : Int).toNat x0.size).size : Int))) + t170)) then (if (wrap64 ((wrap64 ((x6.size : Int) - ((x0.extract ((wrap64 (x5 + 1)) : Int).toNat x0.size).size : Int))) + t170)) ≤ (x6.size : Int) then (if 0 ≤ (wrap64 (t170 + 1)) then (if (wrap64 (t170 + 1)) ≤ ((x0.extract ((wrap64 (x5 + 1)) : Int).toNat x0.size).size : Int) then (some (x6.extract 0 ((wrap64 ((wrap64 ((x6.size : Int) - ((x0.extract ((wrap64 (x5 + 1)) : Int).toNat x0.size).size : Int))) + t170)) : Int).toNat, (x0.extract ((wrap64 (x5 + 1)) : Int).toNat x0.size).extract ((wrap64 (t170 + 1)) : Int).toNat (x0.extract ((wrap64 (x5 + 1)) : Int).toNat x0.size).size, none)) else (none)) else (none)) else (none)) else (none)) else (if 0 ≤ (wrap64 (t170 - 1)) then (if (wrap64 (t170 - 1)) < ((x0.extract ((wrap64 (x5 + 1)) : Int).toNat x0.size).size : Int) then (if (bt (x0.extract ((wrap64 (x5 + 1)) : Int).toNat x0.size) (wrap64 (t170 - 1))) = 92 then (fastjson_parseRawString.l0 k (x0.extract ((wrap64 (x5 + 1)) : Int).toNat x0.size) t170 x6) else (if 0 ≤ (wrap64 ((wrap64 ((x6.size : Int) - ((x0.extract ((wrap64 (x5 + 1)) : Int).toNat x0.size).size : Int))) + t170)) then (if (wrap64 ((wrap64 ((x6.size : Int) - ((x0.extract ((wrap64 (x5 + 1)) : Int).toNat x0.size).size : Int))) + t170)) ≤ (x6.size : Int) then (if 0 ≤ (wrap64 (t170 + 1)) then (if (wrap64 (t170 + 1)) ≤ ((x0.extract ((wrap64 (x5 + 1)) : Int).toNat x0.size).size : Int) then (some (x6.extract 0 ((wrap64 ((wrap64 ((x6.size : Int) - ((x0.extract ((wrap64 (x5 + 1)) : Int).toNat x0.size).size : Int))) + t170)) : Int).toNat, (x0.extract ((wrap64 (x5 + 1)) : Int).toNat x0.size).extract ((wrap64 (t170 + 1)) : Int).toNat (x0.extract ((wrap64 (x5 + 1)) : Int).toNat x0.size).size, none)) else (none)) else (none)) else (none)) else (none))) else (none)) else (none))))) else (none)) else (none))
def fastjson_parseRawString.l1 : Nat → ByteArray → Int → ByteArray → Int → Option (ByteArray × ByteArray × Option Int)
 | 0, _, _, _, _ => none
 | k + 1, x0, x5, x6, x7 => if x7 > 0 then (if 0 ≤ (wrap64 (x7 - 1)) then (if (wrap64 (x7 - 1)) < (x0.size : Int) then (if (bt x0 (wrap64 (x7 - 1))) = 92 then (fastjson_parseRawString.l1 k x0 x5 x6 (wrap64 (x7 - 1))) else (fastjson_parseRawString.j3 k x0 x5 x6 x7)) else (none)) else (none)) else (fastjson_parseRawString.j3 k x0 x5 x6 x7)
end
def fastjson_parseRawString.f (k : Nat) (a0 : ByteArray) : Option (ByteArray × ByteArray × Option Int) := (strings_IndexByte.f a0 34).bind fun t168 => (if t168 < 0 then ((errors_New.f (⟨#[109, 105, 115, 115, 105, 110, 103, 32, 99, 108, 111, 115, 105, 110, 103]⟩ : ByteArray)).bind fun t169 => (some (a0, (⟨#[]⟩ : ByteArray), t169))) else (if t168 = 0 then (fastjson_parseRawString.j0 k a0 t168 true) else (if 0 ≤ (wrap64 (t168 - 1)) then (if (wrap64 (t168 - 1)) < (a0.size : Int) then (fastjson_parseRawString.j0 k a0 t168 ((bt a0 (wrap64 (t168 - 1))) != 92)) else (none)) else (none))))
theorem fastjson_parseRawString.mono_l : ∀ k, (∀ y0 y1 y2, LeO (fastjson_parseRawString.j0 k y0 y1 y2) (fastjson_parseRawString.j0 (k + 1) y0 y1 y2)) ∧ (∀ y0 y1 y2, LeO (fastjson_parseRawString.l0 k y0 y1 y2) (fastjson_parseRawString.l0 (k + 1) y0 y1 y2)) ∧ (∀ y0 y1 y2 y3, LeO (fastjson_parseRawString.j3 k y0 y1 y2 y3) (fastjson_parseRawString.j3 (k + 1) y0 y1 y2 y3)) ∧ (∀ y0 y1 y2 y3, LeO (fastjson_parseRawString.l1 k y0 y1 y2 y3) (fastjson_parseRawString.l1 (k + 1) y0 y1 y2 y3))
 | 0 => ⟨fun _ _ _ r h => by simp [fastjson_parseRawString.j0] at h, fun _ _ _ r h => by simp [fastjson_parseRawString.l0] at h, fun _ _ _ _ r h => by simp [fastjson_parseRawString.j3] at h, fun _ _ _ _ r h => by simp [fastjson_parseRawString.l1] at h⟩
 | k + 1 => by
  obtain ⟨ih0, ih1, ih2, ih3⟩ := fastjson_parseRawString.mono_l k
  refine ⟨?_, ?_, ?_, ?_⟩
  ·intro y0 y1 y2
   unfold fastjson_parseRawString.j0
   repeat' first
   | (with_reducible exact ih0 _ _ _)
   | (with_reducible exact ih1 _ _ _)
   | (with_reducible exact ih2 _ _ _ _)
   | (with_reducible exact ih3 _ _ _ _)
   | (with_reducible exact LeO.refl _)
   | (with_reducible exact LeO.none _)
   | (with_reducible refine LeO.ite ?_ ?_)
   | (with_reducible refine LeO.bind ?_ (fun _ => ?_))
   | exact ih0 _ _ _
   | exact ih1 _ _ _
   | exact ih2 _ _ _ _
   | exact ih3 _ _ _ _
   | exact LeO.none _
   | refine LeO.ite ?_ ?_
   | refine LeO.bind ?_ (fun _ => ?_)
  ·intro y0 y1 y2
   unfold fastjson_parseRawString.l0
   repeat' first
   | (with_reducible exact ih0 _ _ _)
   | (with_reducible exact ih1 _ _ _)
   | (with_reducible exact ih2 _ _ _ _)
   | (with_reducible exact ih3 _ _ _ _)
   | (with_reducible exact LeO.refl _)
   | (with_reducible exact LeO.none _)
   | (with_reducible refine LeO.ite ?_ ?_)
   | (with_reducible refine LeO.bind ?_ (fun _ => ?_))
   | exact ih0 _ _ _
   | exact ih1 _ _ _
   | exact ih2 _ _ _ _
   | exact ih3 _ _ _ _
   | exact LeO.none _
   | refine LeO.ite ?_ ?_
   | refine LeO.bind ?_ (fun _ => ?_)
  ·intro y0 y1 y2 y3
   unfold fastjson_parseRawString.j3
   repeat' first
   | (with_reducible exact ih0 _ _ _)
   | (with_reducible exact ih1 _ _ _)
   | (with_reducible exact ih2 _ _ _ _)
   | (with_reducible exact ih3 _ _ _ _)
   | (with_reducible exact LeO.refl _)
   | (with_reducible exact LeO.none _)
   | (with_reducible refine LeO.ite ?_ ?_)
   | (with_reducible refine LeO.bind ?_ (fun _ => ?_))
   | exact ih0 _ _ _
   | exact ih1 _ _ _
   | exact ih2 _ _ _ _
   | exact ih3 _ _ _ _
   | exact LeO.none _
   | refine LeO.ite ?_ ?_
   | refine LeO.bind ?_ (fun _ => ?_)
  intro y0 y1 y2 y3
  unfold fastjson_parseRawString.l1
  repeat' first
  | (with_reducible exact ih0 _ _ _)
  | (with_reducible exact ih1 _ _ _)
  | (with_reducible exact ih2 _ _ _ _)
  | (with_reducible exact ih3 _ _ _ _)
  | (with_reducible exact LeO.refl _)
  | (with_reducible exact LeO.none _)
  | (with_reducible refine LeO.ite ?_ ?_)
  | (with_reducible refine LeO.bind ?_ (fun _ => ?_))
  | exact ih0 _ _ _
  | exact ih1 _ _ _
  | exact ih2 _ _ _ _
  | exact ih3 _ _ _ _
  | exact LeO.none _
  | refine LeO.ite ?_ ?_
  | refine LeO.bind ?_ (fun _ => ?_)
theorem fastjson_parseRawString.mono : ∀ a0 k, LeO (fastjson_parseRawString.f k a0) (fastjson_parseRawString.f (k + 1) a0) := by
 intro a0 k
 obtain ⟨ih0, ih1, ih2, ih3⟩ := fastjson_parseRawString.mono_l k
 unfold fastjson_parseRawString.f
 repeat' first
   | (with_reducible exact ih0 _ _ _)
   | (with_reducible exact ih1 _ _ _)
   | (with_reducible exact ih2 _ _ _ _)
   | (with_reducible exact ih3 _ _ _ _)
   | (with_reducible exact LeO.refl _)
   | (with_reducible exact LeO.none _)
   | (with_reducible refine LeO.ite ?_ ?_)
   | (with_reducible refine LeO.bind ?_ (fun _ => ?_))
   | exact ih0 _ _ _
   | exact ih1 _ _ _
   | exact ih2 _ _ _ _
   | exact ih3 _ _ _ _
   | exact LeO.none _
   | refine LeO.ite ?_ ?_
   | refine LeO.bind ?_ (fun _ => ?_)
set_option maxHeartbeats 8000000 in
set_option maxRecDepth 100000 in
theorem fastjson_parseRawString.calls (k : Nat) (a0 : ByteArray) (r1 : ByteArray) (r2 : ByteArray) (r3 : Option Int) (w : World) (h : fastjson_parseRawString.f k a0 = some (r1, r2, r3)) :
  Calls Tryd.prog 73 #[.string a0] w fun e w' => ∃ (et2_ : Nat) (ep2_ : Value), e = .returned (.tuple #[.string r1, .string r2, errX et2_ ep2_ r3]) ∧ Below w.heap.size w w' := by
 have HB := Aside0.mk (Below.refl w.heap.size w)
 have H : ((strings_IndexByte.f a0 34).bind fun t168 => (if t168 < 0 then ((errors_New.f (⟨#[109, 105, 115, 115, 105, 110, 103, 32, 99, 108, 111, 115, 105, 110, 103]⟩ : ByteArray)).bind fun t169 => (some (a0, (⟨#[]⟩ : ByteArray), t169))) else (if t168 = 0 then (fastjson_parseRawString.j0 k a0 t168 true) else (if 0 ≤ (wrap64 (t168 - 1)) then (if (wrap64 (t168 - 1)) < (a0.size : Int) then (fastjson_parseRawString.j0 k a0 t168 ((bt a0 (wrap64 (t168 - 1))) != 92)) else (none)) else (none))))) = some (r1, r2, r3) := h
 clear h
 replace H := Option.bind_eq_some_iff.mp H
 obtain ⟨t168, A20, H⟩ := H
 replace H : (if t168 < 0 then ((errors_New.f (⟨#[109, 105, 115, 115, 105, 110, 103, 32, 99, 108, 111, 115, 105, 110, 103]⟩ : ByteArray)).bind fun t169 => (some (a0, (⟨#[]⟩ : ByteArray), t169))) else (if t168 = 0 then (fastjson_parseRawString.j0 k a0 t168 true) else (if 0 ≤ (wrap64 (t168 - 1)) then (if (wrap64 (t168 - 1)) < (a0.size : Int) then (fastjson_parseRawString.j0 k a0 t168 ((bt a0 (wrap64 (t168 - 1))) != 92)) else (none)) else (none)))) = some (r1, r2, r3) := H
 have A2 := Aside0.mk A20
 clear A20
 by_cases c3 : t168 < 0
 ·rw [if_pos c3] at H
  have c3b0 : decide (t168 < 0) = true := decide_eq_true c3
  clear c3
  replace H := Option.bind_eq_some_iff.mp H
  obtain ⟨t169, A40, H⟩ := H
  replace H : (some (a0, (⟨#[]⟩ : ByteArray), t169)) = some (r1, r2, r3) := H
  have A4 := Aside0.mk A40
  clear A40
  simp only [Option.some.injEq, Prod.mk.injEq] at H
  obtain ⟨rfl, rfl, rfl⟩ := H
  go_enter Tryd.func73, Tryd.ntmps73
  go_wp2_with (first | (go_at_call 87; (with_reducible refine (strings_IndexByte.calls a0 34 t168 _ A2.out).mono ?_); rintro e w' ⟨rfl, ⟨nd, rfl⟩⟩; (try first | exact ⟨rfl, _, World.drewN_drewN _ _ _⟩ | exact ⟨rfl, _, Eq.trans (World.drewN_drewN _ _ _) (congrArg (World.drewN _) (Nat.add_assoc _ _ _))⟩)) | (go_at_call 41; (with_reducible refine (errors_New.calls (⟨#[109, 105, 115, 115, 105, 110, 103, 32, 99, 108, 111, 115, 105, 110, 103]⟩ : ByteArray) t169 _ A4.out).mono ?_); rintro e w5 ⟨et_A4_0, ep_A4_0, rfl, hb⟩; have n0_ := Aside0.mk (below_step (by repeat (first | (with_reducible first | exact HB.out | apply below_alloc | apply pw_below_drewN | apply below_drew1) | exact HB.out)) hb); clear HB; have HB := n0_; clear n0_; (try clear hb); (try clear hb2); (try clear hk); (try clear hi); (try simp only [errW_none, errW_some, errX_none, errX_some])))
  repeat (go_quiet (first | (go_at_call 87; (with_reducible refine (strings_IndexByte.calls a0 34 t168 _ A2.out).mono ?_); rintro e w' ⟨rfl, ⟨nd, rfl⟩⟩; (try first | exact ⟨rfl, _, World.drewN_drewN _ _ _⟩ | exact ⟨rfl, _, Eq.trans (World.drewN_drewN _ _ _) (congrArg (World.drewN _) (Nat.add_assoc _ _ _))⟩)) | (go_at_call 41; (with_reducible refine (errors_New.calls (⟨#[109, 105, 115, 115, 105, 110, 103, 32, 99, 108, 111, 115, 105, 110, 103]⟩ : ByteArray) t169 _ A4.out).mono ?_); rintro e w5 ⟨et_A4_0, ep_A4_0, rfl, hb⟩; have n0_ := Aside0.mk (below_step (by repeat (first | (with_reducible first | exact HB.out | apply below_alloc | apply pw_below_drewN | apply below_drew1) | exact HB.out)) hb); clear HB; have HB := n0_; clear n0_; (try clear hb); (try clear hb2); (try clear hk); (try clear hi); (try simp only [errW_none, errW_some, errX_none, errX_some]))); try go_wp2_with (first | (go_at_call 87; (with_reducible refine (strings_IndexByte.calls a0 34 t168 _ A2.out).mono ?_); rintro e w' ⟨rfl, ⟨nd, rfl⟩⟩; (try first | exact ⟨rfl, _, World.drewN_drewN _ _ _⟩ | exact ⟨rfl, _, Eq.trans (World.drewN_drewN _ _ _) (congrArg (World.drewN _) (Nat.add_assoc _ _ _))⟩)) | (go_at_call 41; (with_reducible refine (errors_New.calls (⟨#[109, 105, 115, 115, 105, 110, 103, 32, 99, 108, 111, 115, 105, 110, 103]⟩ : ByteArray) t169 _ A4.out).mono ?_); rintro e w5 ⟨et_A4_0, ep_A4_0, rfl, hb⟩; have n0_ := Aside0.mk (below_step (by repeat (first | (with_reducible first | exact HB.out | apply below_alloc | apply pw_below_drewN | apply below_drew1) | exact HB.out)) hb); clear HB; have HB := n0_; clear n0_; (try clear hb); (try clear hb2); (try clear hk); (try clear hi); (try simp only [errW_none, errW_some, errX_none, errX_some]))))
  go_ret3
  first | exact ⟨et_A4_0, ep_A4_0, by first | rfl | (simp [errW_none, errW_some] <;> rfl) | (simp [*, errW_none, errW_some] <;> rfl) | (simp [errW_none, errW_some] <;> exact ⟨rfl, rfl⟩) | (simp [*, errW_none, errW_some] <;> exact ⟨rfl, rfl⟩), by repeat (first | (with_reducible first | exact HB.out | apply below_alloc | apply pw_below_drewN | apply below_drew1) | exact HB.out)⟩ | exact ⟨⟨et_A4_0, ep_A4_0, by first | rfl | (simp [errW_none, errW_some] <;> rfl) | (simp [*, errW_none, errW_some] <;> rfl) | (simp [errW_none, errW_some] <;> exact ⟨rfl, rfl⟩) | (simp [*, errW_none, errW_some] <;> exact ⟨rfl, rfl⟩)⟩, by repeat (first | (with_reducible first | exact HB.out | apply below_alloc | apply pw_below_drewN | apply below_drew1) | exact HB.out)⟩
 rw [if_neg c3] at H
 have c3b0 : decide (t168 < 0) = false := decide_eq_false c3
 clear c3
 have HC6 := Aside0.mk H
 clear H
 go_enter Tryd.func73, Tryd.ntmps73
 go_upto_region 4 with (first | (go_at_call 87; (with_reducible refine (strings_IndexByte.calls a0 34 t168 _ A2.out).mono ?_); rintro e w' ⟨rfl, ⟨nd, rfl⟩⟩; (try first | exact ⟨rfl, _, World.drewN_drewN _ _ _⟩ | exact ⟨rfl, _, Eq.trans (World.drewN_drewN _ _ _) (congrArg (World.drewN _) (Nat.add_assoc _ _ _))⟩)))
 repeat (go_quiet (first | (go_at_call 87; (with_reducible refine (strings_IndexByte.calls a0 34 t168 _ A2.out).mono ?_); rintro e w' ⟨rfl, ⟨nd, rfl⟩⟩; (try first | exact ⟨rfl, _, World.drewN_drewN _ _ _⟩ | exact ⟨rfl, _, Eq.trans (World.drewN_drewN _ _ _) (congrArg (World.drewN _) (Nat.add_assoc _ _ _))⟩))); go_upto_region 4 with (first | (go_at_call 87; (with_reducible refine (strings_IndexByte.calls a0 34 t168 _ A2.out).mono ?_); rintro e w' ⟨rfl, ⟨nd, rfl⟩⟩; (try first | exact ⟨rfl, _, World.drewN_drewN _ _ _⟩ | exact ⟨rfl, _, Eq.trans (World.drewN_drewN _ _ _) (congrArg (World.drewN _) (Nat.add_assoc _ _ _))⟩))))
 (try simp only [Act.put, List.setIfInBounds_toArray, List.set_cons_zero, List.set_cons_succ])
 go_cut [22] (fun v22 wc => ∃ (kq : Nat) (x22_5 : Bool), v22 = .bool x22_5 ∧ Aside0 (fastjson_parseRawString.j0 kq a0 t168 x22_5 = some (r1, r2, r3)) ∧ Aside0 (kq ≤ k) ∧ Aside0 (Below w.heap.size w wc))
 case first =>
  have H := HC6.out
  clear HC6
  by_cases c7 : t168 = 0
  ·rw [if_pos c7] at H
   have c7b0 : (t168 == 0) = true := beq_iff_eq.mpr c7
   have c7b1 : (t168 != 0) = false := bne_eq_false_iff_eq.mpr c7
   clear c7
   (first | rw [c7b0] | (simp only [i64_w, i32_w]; rw [c7b0]) | rw [c7b1] | skip)
   have H' := Aside0.mk H
   clear H
   go_wp2
   repeat (go_quiet (fail); try go_wp2)
   go_meet
   case rel => exact ⟨_, (true), (by first | rfl | (simp; done) | (simp [*]; done)), H', ⟨by first | omega | exact Nat.le_refl _⟩, ⟨by repeat (first | (with_reducible first | exact HB.out | apply below_alloc | apply pw_below_drewN | apply below_drew1) | exact HB.out)⟩⟩
  rw [if_neg c7] at H
  have c7b0 : (t168 == 0) = false := beq_eq_false_iff_ne.mpr c7
  have c7b1 : (t168 != 0) = true := bne_iff_ne.mpr c7
  (first | rw [c7b0] | (simp only [i64_w, i32_w]; rw [c7b0]) | rw [c7b1] | skip)
  obtain ⟨ji8, hji8⟩ : ∃ j_ : Int, (wrap64 (t168 - 1)) = j_ := ⟨_, rfl⟩
  replace H : (if 0 ≤ (ji8) then (if (ji8) < (a0.size : Int) then (fastjson_parseRawString.j0 k a0 t168 ((bt a0 (ji8)) != 92)) else (none)) else (none)) = some (r1, r2, r3) := by first | (rw [hji8] at H; exact H) | (simp only [hji8] at H ⊢; exact H)
  have hji8w : (IntKind.i64.wrap (t168 - 1)) = ji8 := (i64_w _).trans hji8
  by_cases c9 : 0 ≤ (ji8)
  ·rw [if_pos c9] at H
   have c9b0 : decide (0 ≤ (ji8)) = true := decide_eq_true c9
   clear c9
   by_cases c10 : (ji8) < (a0.size : Int)
   ·rw [if_pos c10] at H
    have c10b0 : decide ((ji8) < (a0.size : Int)) = true := decide_eq_true c10
    clear c10
    have H' := Aside0.mk H
    clear H
    have p11 : 0 ≤ ((ji8) : Int) := of_decide_eq_true (by assumption)
    have q11 : (ji8) < (a0.size : Int) := of_decide_eq_true (by assumption)
    have hx11 := bt_at a0 (ji8)
    replace p11 := eq_true p11
    replace q11 := eq_true q11
    go_wp2
    repeat (go_quiet (fail); try go_wp2)
    go_meet
    case rel => exact ⟨_, (((bt a0 (ji8)) != 92)), (by first | rfl | (simp; done) | (simp only [← hji8] <;> (first | rfl | (simp; done))) | (simp [*]; done)), H', ⟨by first | omega | exact Nat.le_refl _⟩, ⟨by repeat (first | (with_reducible first | exact HB.out | apply below_alloc | apply pw_below_drewN | apply below_drew1) | exact HB.out)⟩⟩
   rw [if_neg c10] at H
   exact absurd H (by simp)
  rw [if_neg c9] at H
  exact absurd H (by simp)
 case rest =>
  clear HC6
  try clear c1
  try clear p1
  try clear q1
  try clear hx1
  try clear p2
  try clear c3
  try clear c3b0
  try clear p6
  try clear c7
  try clear c7b0
  try clear c7b1
  try clear c9
  try clear c9b0
  try clear c10
  try clear c10b0
  try clear p11
  try clear q11
  try clear hx11
  try clear p11
  try clear q11
  obtain ⟨kq, x22_5, rfl, HA, HJ5, HB⟩ := hcut
  cases kq with
  | zero => exact absurd HA.out (by simp [fastjson_parseRawString.j0])
  | succ kj5 =>
   have H := HA.out
   clear HA
   simp only [fastjson_parseRawString.j0] at H
   by_cases c12 : x22_5 = true
   ·subst c12
    have H1 : (if 0 ≤ t168 then (if t168 ≤ (a0.size : Int) then (if 0 ≤ (wrap64 (t168 + 1)) then (if (wrap64 (t168 + 1)) ≤ (a0.size : Int) then (some (a0.extract 0 (t168 : Int).toNat, a0.extract ((wrap64 (t168 + 1)) : Int).toNat a0.size, none)) else (none)) else (none)) else (none)) else (none)) = some (r1, r2, r3) := by rw [if_pos rfl] at H; exact H
    clear H
    have H := H1
    clear H1
    by_cases c13 : 0 ≤ t168
    ·rw [if_pos c13] at H
     have c13b0 := eq_true c13
     have c13b1 : decide (0 ≤ t168) = true := decide_eq_true c13
     clear c13
     by_cases c14 : t168 ≤ (a0.size : Int)
     ·rw [if_pos c14] at H
      have c14b0 := eq_true c14
      have c14b1 : decide (t168 ≤ (a0.size : Int)) = true := decide_eq_true c14
      clear c14
      obtain ⟨ji15, hji15⟩ : ∃ j_ : Int, (wrap64 (t168 + 1)) = j_ := ⟨_, rfl⟩
      replace H : (if 0 ≤ (ji15) then (if (ji15) ≤ (a0.size : Int) then (some (a0.extract 0 (t168 : Int).toNat, a0.extract ((ji15) : Int).toNat a0.size, none)) else (none)) else (none)) = some (r1, r2, r3) := by first | (rw [hji15] at H; exact H) | (simp only [hji15] at H ⊢; exact H)
      have hji15w : (IntKind.i64.wrap (t168 + 1)) = ji15 := (i64_w _).trans hji15
      by_cases c16 : 0 ≤ (ji15)
      ·rw [if_pos c16] at H
       have c16b0 := eq_true c16
       have c16b1 : decide (0 ≤ (ji15)) = true := decide_eq_true c16
       clear c16
       by_cases c17 : (ji15) ≤ (a0.size : Int)
       ·rw [if_pos c17] at H
        have c17b0 := eq_true c17
        have c17b1 : decide ((ji15) ≤ (a0.size : Int)) = true := decide_eq_true c17
        clear c17
        simp only [Option.some.injEq, Prod.mk.injEq] at H
        obtain ⟨rfl, rfl, rfl⟩ := H
        try have hcs18 := fun W_ : World => run_slice_string_h (P := Tryd.prog) W_ 9 a0 Tryd.underlying9 .i64 t168 (of_decide_eq_true (by assumption)) (of_decide_eq_true (by assumption))
        try have hcs19 := fun W_ : World => run_slice_string_l (P := Tryd.prog) W_ 9 a0 Tryd.underlying9 .i64 (ji15) (of_decide_eq_true (by assumption)) (of_decide_eq_true (by assumption))
        go_wp2
        repeat (go_quiet (fail); try go_wp2)
        go_ret3
        first | exact ⟨0, .nilIface, by first | rfl | (simp [errW_none, errW_some] <;> rfl) | (simp only [← hji15]; first | rfl | (simp [errW_none, errW_some] <;> rfl)) | (simp [*, errW_none, errW_some] <;> rfl) | (simp [errW_none, errW_some] <;> exact ⟨rfl, rfl⟩) | (simp [*, errW_none, errW_some] <;> exact ⟨rfl, rfl⟩), by repeat (first | (with_reducible first | exact HB.out | apply below_alloc | apply pw_below_drewN | apply below_drew1) | exact HB.out)⟩ | exact ⟨⟨0, .nilIface, by first | rfl | (simp [errW_none, errW_some] <;> rfl) | (simp only [← hji15]; first | rfl | (simp [errW_none, errW_some] <;> rfl)) | (simp [*, errW_none, errW_some] <;> rfl) | (simp [errW_none, errW_some] <;> exact ⟨rfl, rfl⟩) | (simp [*, errW_none, errW_some] <;> exact ⟨rfl, rfl⟩)⟩, by repeat (first | (with_reducible first | exact HB.out | apply below_alloc | apply pw_below_drewN | apply below_drew1) | exact HB.out)⟩
       rw [if_neg c17] at H
       exact absurd H (by simp)
      rw [if_neg c16] at H
      exact absurd H (by simp)
     rw [if_neg c14] at H
     exact absurd H (by simp)
    rw [if_neg c13] at H
    exact absurd H (by simp)
   replace c12 := Bool.eq_false_iff.mpr c12
   subst c12
   have H1 : (fastjson_parseRawString.l0 kj5 a0 t168 a0) = some (r1, r2, r3) := by rw [if_neg (show ¬ (false = true) by decide)] at H; exact H
   clear H
   have H := H1
   clear H1
   have H' := Aside0.mk H
   clear H
   go_wp2
   repeat (go_quiet (fail); try go_wp2)
   try simp only [Act.put, List.setIfInBounds_toArray, List.set_cons_succ, List.set_cons_zero]
   go_loopg [0, 5] kj5 (fun kq v0 v5 w' => ∃ (x0_2 : ByteArray) (x5_2 : Int), v0 = .string x0_2 ∧ v5 = .int .i64 x5_2 ∧ Aside0 (fastjson_parseRawString.l0 kq x0_2 x5_2 a0 = some (r1, r2, r3)) ∧ Aside0 (kq ≤ kj5) ∧ Aside0 (Below w.heap.size w w'))
   case atStart => exact ⟨(a0), (t168), (by first | rfl | (simp; done) | (simp [*]; done)), (by first | rfl | (simp; done) | (simp [*]; done)), H', ⟨Nat.le_refl _⟩, ⟨by repeat (first | (with_reducible first | exact HB.out | apply below_alloc | apply pw_below_drewN | apply below_drew1) | exact HB.out)⟩⟩
   case round =>
    clear H'
    try clear c1
    try clear p1
    try clear q1
    try clear hx1
    try clear p2
    try clear c3
    try clear c3b0
    try clear p6
    try clear c7
    try clear c7b0
    try clear c7b1
    try clear c9
    try clear c9b0
    try clear c10
    try clear c10b0
    try clear p11
    try clear q11
    try clear hx11
    try clear c12
    try clear c13
    try clear c13b0
    try clear c13b1
    try clear c14
    try clear c14b0
    try clear c14b1
    try clear c16
    try clear c16b0
    try clear c16b1
    try clear c17
    try clear c17b0
    try clear c17b1
    try clear p1
    try clear p11
    try clear p2
    try clear p6
    try clear q1
    try clear q11
    obtain ⟨x0_2, x5_2, rfl, rfl, HA, HK2, HB⟩ := hrel
    cases gk with
    | zero => exact absurd HA.out (by simp [fastjson_parseRawString.l0])
    | succ k2 =>
     have H := HA.out
     clear HA
     simp only [fastjson_parseRawString.l0] at H
     have HC20 := Aside0.mk H
     clear H
     go_upto_block 2 with (fail)
     repeat (go_quiet (fail); go_upto_block 2 with (fail))
     go_cut [7] (fun v7 wc => ∃ (kq : Nat) (x7_19 : Int), v7 = .int .i64 x7_19 ∧ Aside0 (fastjson_parseRawString.j3 kq x0_2 x5_2 a0 x7_19 = some (r1, r2, r3)) ∧ Aside0 (kq ≤ k2) ∧ Aside0 (Below w.heap.size w wc))
     case first =>
      have H := HC20.out
      clear HC20
      have H' := Aside0.mk H
      clear H
      go_wp2
      repeat (go_quiet (fail); try go_wp2)
      try simp only [Act.put, List.setIfInBounds_toArray, List.set_cons_succ, List.set_cons_zero]
      go_loopg [7] k2 (fun kq v7 w' => ∃ (x7_3 : Int), v7 = .int .i64 x7_3 ∧ Aside0 (fastjson_parseRawString.l1 kq x0_2 x5_2 a0 x7_3 = some (r1, r2, r3)) ∧ Aside0 (kq ≤ k2) ∧ Aside0 (Below w.heap.size w w'))
      case atStart => exact ⟨(wrap64 (x5_2 - 1)), (by first | rfl | (simp; done) | (simp [*]; done)), H', ⟨Nat.le_refl _⟩, ⟨by repeat (first | (with_reducible first | exact HB.out | apply below_alloc | apply pw_below_drewN | apply below_drew1) | exact HB.out)⟩⟩
      case round =>
       clear H'
       try clear c1
       try clear p1
       try clear q1
       try clear hx1
       try clear p2
       try clear c3
       try clear c3b0
       try clear p6
       try clear c7
       try clear c7b0
       try clear c7b1
       try clear c9
       try clear c9b0
       try clear c10
       try clear c10b0
       try clear p11
       try clear q11
       try clear hx11
       try clear c12
       try clear c13
       try clear c13b0
       try clear c13b1
       try clear c14
       try clear c14b0
       try clear c14b1
       try clear c16
       try clear c16b0
       try clear c16b1
       try clear c17
       try clear c17b0
       try clear c17b1
       try clear p1
       try clear p11
       try clear p2
       try clear p6
       try clear q1
       try clear q11
       obtain ⟨x7_3, rfl, HA, HK3, HB⟩ := hrel
       cases gk with
       | zero => exact absurd HA.out (by simp [fastjson_parseRawString.l1])
       | succ k3 =>
        have H := HA.out
        clear HA
        simp only [fastjson_parseRawString.l1] at H
        by_cases c21 : x7_3 > 0
        ·rw [if_pos c21] at H
         have c21b0 : decide (0 < x7_3) = true := decide_eq_true c21
         clear c21
         (first | rw [c21b0] | (simp only [i64_w, i32_w]; rw [c21b0]) | rw [c21b1] | skip)
         obtain ⟨ji22, hji22⟩ : ∃ j_ : Int, (wrap64 (x7_3 - 1)) = j_ := ⟨_, rfl⟩
         replace H : (if 0 ≤ (ji22) then (if (ji22) < (x0_2.size : Int) then (if (bt x0_2 (ji22)) = 92 then (fastjson_parseRawString.l1 k3 x0_2 x5_2 a0 ji22) else (fastjson_parseRawString.j3 k3 x0_2 x5_2 a0 x7_3)) else (none)) else (none)) = some (r1, r2, r3) := by first | (rw [hji22] at H; exact H) | (simp only [hji22] at H ⊢; exact H)
         have hji22w : (IntKind.i64.wrap (x7_3 - 1)) = ji22 := (i64_w _).trans hji22
         by_cases c23 : 0 ≤ (ji22)
         ·rw [if_pos c23] at H
          have c23b0 : decide (0 ≤ (ji22)) = true := decide_eq_true c23
          clear c23
          by_cases c24 : (ji22) < (x0_2.size : Int)
          ·rw [if_pos c24] at H
           have c24b0 : decide ((ji22) < (x0_2.size : Int)) = true := decide_eq_true c24
           clear c24
           by_cases c26 : (bt x0_2 (ji22)) = 92
           ·rw [if_pos c26] at H
            have c26b0 : ((bt x0_2 (ji22)) == 92) = true := beq_iff_eq.mpr c26
            have c26b1 : ((bt x0_2 (ji22)) != 92) = false := bne_eq_false_iff_eq.mpr c26
            clear c26
            have H' := Aside0.mk H
            clear H
            have p25 : 0 ≤ ((ji22) : Int) := of_decide_eq_true (by assumption)
            have q25 : (ji22) < (x0_2.size : Int) := of_decide_eq_true (by assumption)
            have hx25 := bt_at x0_2 (ji22)
            replace p25 := eq_true p25
            replace q25 := eq_true q25
            go_wp2
            repeat (go_quiet (fail); try go_wp2)
            go_roundg k3
            case measure => have := HJ5.out; have := HK2.out; have := HK3.out; omega
            case rel => exact ⟨(ji22), (by first | rfl | (simp; done) | (simp only [← hji22] <;> (first | rfl | (simp; done))) | (simp [*]; done)), H', ⟨by have := HJ5.out; have := HK2.out; have := HK3.out; omega⟩, ⟨by repeat (first | (with_reducible first | exact HB.out | apply below_alloc | apply pw_below_drewN | apply below_drew1) | exact HB.out)⟩⟩
           rw [if_neg c26] at H
           have c26b0 : ((bt x0_2 (ji22)) == 92) = false := beq_eq_false_iff_ne.mpr c26
           have c26b1 : ((bt x0_2 (ji22)) != 92) = true := bne_iff_ne.mpr c26
           have H' := Aside0.mk H
           clear H
           have p25 : 0 ≤ ((ji22) : Int) := of_decide_eq_true (by assumption)
           have q25 : (ji22) < (x0_2.size : Int) := of_decide_eq_true (by assumption)
           have hx25 := bt_at x0_2 (ji22)
           replace p25 := eq_true p25
           replace q25 := eq_true q25
           go_wp2
           repeat (go_quiet (fail); try go_wp2)
           go_meet
           case rel => exact ⟨_, (x7_3), (by first | rfl | (simp; done) | (simp [*]; done)), H', ⟨by have := HJ5.out; have := HK2.out; have := HK3.out; first | omega | exact Nat.le_refl _⟩, ⟨by repeat (first | (with_reducible first | exact HB.out | apply below_alloc | apply pw_below_drewN | apply below_drew1) | exact HB.out)⟩⟩
          rw [if_neg c24] at H
          exact absurd H (by simp)
         rw [if_neg c23] at H
         exact absurd H (by simp)
        rw [if_neg c21] at H
        have c21b0 : decide (0 < x7_3) = false := decide_eq_false c21
        clear c21
        (first | rw [c21b0] | (simp only [i64_w, i32_w]; rw [c21b0]) | rw [c21b1] | skip)
        have H' := Aside0.mk H
        clear H
        go_wp2
        repeat (go_quiet (fail); try go_wp2)
        go_meet
        case rel => exact ⟨_, (x7_3), (by first | rfl | (simp; done) | (simp [*]; done)), H', ⟨by have := HJ5.out; have := HK2.out; have := HK3.out; first | omega | exact Nat.le_refl _⟩, ⟨by repeat (first | (with_reducible first | exact HB.out | apply below_alloc | apply pw_below_drewN | apply below_drew1) | exact HB.out)⟩⟩
     case rest =>
      clear HC20
      try clear c1
      try clear p1
      try clear q1
      try clear hx1
      try clear c2
      try clear p2
      try clear q2
      try clear hx2
      try clear c3
      try clear c3b0
      try clear p6
      try clear c7
      try clear c7b0
      try clear c7b1
      try clear c9
      try clear c9b0
      try clear c10
      try clear c10b0
      try clear p11
      try clear q11
      try clear hx11
      try clear c12
      try clear c13
      try clear c13b0
      try clear c13b1
      try clear c14
      try clear c14b0
      try clear c14b1
      try clear c16
      try clear c16b0
      try clear c16b1
      try clear c17
      try clear c17b0
      try clear c17b1
      try clear c21
      try clear c21b0
      try clear c21b1
      try clear c23
      try clear c23b0
      try clear c24
      try clear c24b0
      try clear p25
      try clear q25
      try clear hx25
      try clear c26
      try clear c26b0
      try clear c26b1
      try clear p1
      try clear p11
      try clear p2
      try clear p25
      try clear p6
      try clear q1
      try clear q11
      try clear q25
      obtain ⟨kq, x7_19, rfl, HA, HJ19, HB⟩ := hcut
      cases kq with
      | zero => exact absurd HA.out (by simp [fastjson_parseRawString.j3])
      | succ kj19 =>
       have H := HA.out
       clear HA
       simp only [fastjson_parseRawString.j3] at H
       by_cases c27 : (Int.tmod (IntKind.u64.wrap (wrap64 (x5_2 - x7_19))) 2) = 0
       ·rw [if_pos c27] at H
        have c27b0 : ((Int.tmod (IntKind.u64.wrap (wrap64 (x5_2 - x7_19))) 2) == 0) = true := beq_iff_eq.mpr c27
        have c27b1 : ((Int.tmod (IntKind.u64.wrap (wrap64 (x5_2 - x7_19))) 2) != 0) = false := bne_eq_false_iff_eq.mpr c27
        clear c27
        obtain ⟨ji28, hji28⟩ : ∃ j_ : Int, (wrap64 ((wrap64 ((a0.size : Int) - (x0_2.size : Int))) + x5_2)) = j_ := ⟨_, rfl⟩
        replace H : (if 0 ≤ (ji28) then (if (ji28) ≤ (a0.size : Int) then (if 0 ≤ (wrap64 (x5_2 + 1)) then (if (wrap64 (x5_2 + 1)) ≤ (x0_2.size : Int) then (some (a0.extract 0 ((ji28) : Int).toNat, x0_2.extract ((wrap64 (x5_2 + 1)) : Int).toNat x0_2.size, none)) else (none)) else (none)) else (none)) else (none)) = some (r1, r2, r3) := by first | (rw [hji28] at H; exact H) | (simp only [hji28] at H ⊢; exact H)
        have hji28w : (IntKind.i64.wrap ((wrap64 ((a0.size : Int) - (x0_2.size : Int))) + x5_2)) = ji28 := (i64_w _).trans hji28
        by_cases c29 : 0 ≤ (ji28)
        ·rw [if_pos c29] at H
         have c29b0 := eq_true c29
         have c29b1 : decide (0 ≤ (ji28)) = true := decide_eq_true c29
         clear c29
         by_cases c30 : (ji28) ≤ (a0.size : Int)
         ·rw [if_pos c30] at H
          have c30b0 := eq_true c30
          have c30b1 : decide ((ji28) ≤ (a0.size : Int)) = true := decide_eq_true c30
          clear c30
          obtain ⟨ji31, hji31⟩ : ∃ j_ : Int, (wrap64 (x5_2 + 1)) = j_ := ⟨_, rfl⟩
          replace H : (if 0 ≤ (ji31) then (if (ji31) ≤ (x0_2.size : Int) then (some (a0.extract 0 ((ji28) : Int).toNat, x0_2.extract ((ji31) : Int).toNat x0_2.size, none)) else (none)) else (none)) = some (r1, r2, r3) := by first | (rw [hji31] at H; exact H) | (simp only [hji31] at H ⊢; exact H)
          have hji31w : (IntKind.i64.wrap (x5_2 + 1)) = ji31 := (i64_w _).trans hji31
          by_cases c32 : 0 ≤ (ji31)
          ·rw [if_pos c32] at H
           have c32b0 := eq_true c32
           have c32b1 : decide (0 ≤ (ji31)) = true := decide_eq_true c32
           clear c32
           by_cases c33 : (ji31) ≤ (x0_2.size : Int)
           ·rw [if_pos c33] at H
            have c33b0 := eq_true c33
            have c33b1 : decide ((ji31) ≤ (x0_2.size : Int)) = true := decide_eq_true c33
            clear c33
            simp only [Option.some.injEq, Prod.mk.injEq] at H
            obtain ⟨rfl, rfl, rfl⟩ := H
            try have hcs34 := fun W_ : World => run_slice_string_h (P := Tryd.prog) W_ 9 a0 Tryd.underlying9 .i64 (ji28) (of_decide_eq_true (by assumption)) (of_decide_eq_true (by assumption))
            try have hcs35 := fun W_ : World => run_slice_string_l (P := Tryd.prog) W_ 9 x0_2 Tryd.underlying9 .i64 (ji31) (of_decide_eq_true (by assumption)) (of_decide_eq_true (by assumption))
            go_wp2
            repeat (go_quiet (fail); try go_wp2)
            go_ret3
            first | exact ⟨0, .nilIface, by first | rfl | (simp [errW_none, errW_some] <;> rfl) | (simp only [← hji28, ← hji31]; first | rfl | (simp [errW_none, errW_some] <;> rfl)) | (simp [*, errW_none, errW_some] <;> rfl) | (simp [errW_none, errW_some] <;> exact ⟨rfl, rfl⟩) | (simp [*, errW_none, errW_some] <;> exact ⟨rfl, rfl⟩), by repeat (first | (with_reducible first | exact HB.out | apply below_alloc | apply pw_below_drewN | apply below_drew1) | exact HB.out)⟩ | exact ⟨⟨0, .nilIface, by first | rfl | (simp [errW_none, errW_some] <;> rfl) | (simp only [← hji28, ← hji31]; first | rfl | (simp [errW_none, errW_some] <;> rfl)) | (simp [*, errW_none, errW_some] <;> rfl) | (simp [errW_none, errW_some] <;> exact ⟨rfl, rfl⟩) | (simp [*, errW_none, errW_some] <;> exact ⟨rfl, rfl⟩)⟩, by repeat (first | (with_reducible first | exact HB.out | apply below_alloc | apply pw_below_drewN | apply below_drew1) | exact HB.out)⟩
           rw [if_neg c33] at H
           exact absurd H (by simp)
          rw [if_neg c32] at H
          exact absurd H (by simp)
         rw [if_neg c30] at H
         exact absurd H (by simp)
        rw [if_neg c29] at H
        exact absurd H (by simp)
       rw [if_neg c27] at H
       have c27b0 : ((Int.tmod (IntKind.u64.wrap (wrap64 (x5_2 - x7_19))) 2) == 0) = false := beq_eq_false_iff_ne.mpr c27
       have c27b1 : ((Int.tmod (IntKind.u64.wrap (wrap64 (x5_2 - x7_19))) 2) != 0) = true := bne_iff_ne.mpr c27
       obtain ⟨ji36, hji36⟩ : ∃ j_ : Int, (wrap64 (x5_2 + 1)) = j_ := ⟨_, rfl⟩
       replace H : (if 0 ≤ (ji36) then (if (ji36) ≤ (x0_2.size : Int) then ((strings_IndexByte.f (x0_2.extract ((ji36) : Int).toNat x0_2.size) 34).bind fun t170 => (if t170 < 0 then ((errors_New.f (⟨#[109, 105, 115, 115, 105, 110, 103, 32, 99, 108, 111, 115, 105, 110, 103]⟩ : ByteArray)).bind fun t171 => (some (a0, (⟨#[]⟩ : ByteArray), t171))) else (if t170 = 0 then (if 0 ≤ (wrap64 ((wrap64 ((a0.size : Int) - ((x0_2.extract ((ji36) : Int).toNat x0_2.size).size : Int))) + t170)) then (if (wrap64 ((wrap64 ((a0.size : Int) - ((x0_2.extract ((ji36) : Int).toNat x0_2.size).size : Int))) + t170)) ≤ (a0.size : Int) then (if 0 ≤ (wrap64 (t170 + 1)) then (if (wrap64 (t170 + 1)) ≤ ((x0_2.extract ((ji36) : Int).toNat x0_2.size).size : Int) then (some (a0.extract 0 ((wrap64 ((wrap64 ((a0.size : Int) - ((x0_2.extract ((ji36) : Int).toNat x0_2.size).size : Int))) + t170)) : Int).toNat, (x0_2.extract ((ji36) : Int).toNat x0_2.size).extract ((wrap64 (t170 + 1)) : Int).toNat (x0_2.extract ((ji36) : Int).toNat x0_2.size).size, none)) else (none)) else (none)) else (none)) else (none)) else (if 0 ≤ (wrap64 (t170 - 1)) then (if (wrap64 (t170 - 1)) < ((x0_2.extract ((ji36) : Int).toNat x0_2.size).size : Int) then (if (bt (x0_2.extract ((ji36) : Int).toNat x0_2.size) (wrap64 (t170 - 1))) = 92 then (fastjson_parseRawString.l0 kj19 (x0_2.extract ((ji36) : Int).toNat x0_2.size) t170 a0) else (if 0 ≤ (wrap64 ((wrap64 ((a0.size : Int) - ((x0_2.extract ((ji36) : Int).toNat x0_2.size).size : Int))) + t170)) then (if (wrap64 ((wrap64 ((a0.size : Int) - ((x0_2.extract ((ji36) : Int).toNat x0_2.size).size : Int))) + t170)) ≤ (a0.size : Int) then (if 0 ≤ (wrap64 (t170 + 1)) then (if (wrap64 (t170 + 1)) ≤ ((x0_2.extract ((ji36) : Int).toNat x0_2.size).size : Int) then (some (a0.extract 0 ((wrap64 ((wrap64 ((a0.size : Int) - ((x0_2.extract ((ji36) : Int).toNat x0_2.size).size : Int))) + t170)) : Int).toNat, (x0_2.extract ((ji36) : Int).toNat x0_2.size).extract ((wrap64 (t170 + 1)) : Int).toNat (x0_2.extract ((ji36) : Int).toNat x0_2.size).size, none)) else (none)) else (none)) else (none)) else (none))) else (none)) else (none))))) else (none)) else (none)) = some (r1, r2, r3) := by first | (rw [hji36] at H; exact H) | (simp only [hji36] at H ⊢; exact H)
       have hji36w : (IntKind.i64.wrap (x5_2 + 1)) = ji36 := (i64_w _).trans hji36
       by_cases c37 : 0 ≤ (ji36)
       ·rw [if_pos c37] at H
        have c37b0 := eq_true c37
        have c37b1 : decide (0 ≤ (ji36)) = true := decide_eq_true c37
        clear c37
        by_cases c38 : (ji36) ≤ (x0_2.size : Int)
        ·rw [if_pos c38] at H
         have c38b0 := eq_true c38
         have c38b1 : decide ((ji36) ≤ (x0_2.size : Int)) = true := decide_eq_true c38
         clear c38
         obtain ⟨js39, hjs39⟩ : ∃ z_ : ByteArray, (x0_2.extract ((ji36) : Int).toNat x0_2.size) = z_ := ⟨_, rfl⟩
         replace H : ((strings_IndexByte.f js39 34).bind fun t170 => (if t170 < 0 then ((errors_New.f (⟨#[109, 105, 115, 115, 105, 110, 103, 32, 99, 108, 111, 115, 105, 110, 103]⟩ : ByteArray)).bind fun t171 => (some (a0, (⟨#[]⟩ : ByteArray), t171))) else (if t170 = 0 then (if 0 ≤ (wrap64 ((wrap64 ((a0.size : Int) - (js39.size : Int))) + t170)) then (if (wrap64 ((wrap64 ((a0.size : Int) - (js39.size : Int))) + t170)) ≤ (a0.size : Int) then (if 0 ≤ (wrap64 (t170 + 1)) then (if (wrap64 (t170 + 1)) ≤ (js39.size : Int) then (some (a0.extract 0 ((wrap64 ((wrap64 ((a0.size : Int) - (js39.size : Int))) + t170)) : Int).toNat, js39.extract ((wrap64 (t170 + 1)) : Int).toNat js39.size, none)) else (none)) else (none)) else (none)) else (none)) else (if 0 ≤ (wrap64 (t170 - 1)) then (if (wrap64 (t170 - 1)) < (js39.size : Int) then (if (bt js39 (wrap64 (t170 - 1))) = 92 then (fastjson_parseRawString.l0 kj19 js39 t170 a0) else (if 0 ≤ (wrap64 ((wrap64 ((a0.size : Int) - (js39.size : Int))) + t170)) then (if (wrap64 ((wrap64 ((a0.size : Int) - (js39.size : Int))) + t170)) ≤ (a0.size : Int) then (if 0 ≤ (wrap64 (t170 + 1)) then (if (wrap64 (t170 + 1)) ≤ (js39.size : Int) then (some (a0.extract 0 ((wrap64 ((wrap64 ((a0.size : Int) - (js39.size : Int))) + t170)) : Int).toNat, js39.extract ((wrap64 (t170 + 1)) : Int).toNat js39.size, none)) else (none)) else (none)) else (none)) else (none))) else (none)) else (none))))) = some (r1, r2, r3) := by first | (rw [hjs39] at H; exact H) | (simp only [hjs39] at H ⊢; exact H)
         replace H := Option.bind_eq_some_iff.mp H
         obtain ⟨t170, A400, H⟩ := H
         replace H : (if t170 < 0 then ((errors_New.f (⟨#[109, 105, 115, 115, 105, 110, 103, 32, 99, 108, 111, 115, 105, 110, 103]⟩ : ByteArray)).bind fun t171 => (some (a0, (⟨#[]⟩ : ByteArray), t171))) else (if t170 = 0 then (if 0 ≤ (wrap64 ((wrap64 ((a0.size : Int) - (js39.size : Int))) + t170)) then (if (wrap64 ((wrap64 ((a0.size : Int) - (js39.size : Int))) + t170)) ≤ (a0.size : Int) then (if 0 ≤ (wrap64 (t170 + 1)) then (if (wrap64 (t170 + 1)) ≤ (js39.size : Int) then (some (a0.extract 0 ((wrap64 ((wrap64 ((a0.size : Int) - (js39.size : Int))) + t170)) : Int).toNat, js39.extract ((wrap64 (t170 + 1)) : Int).toNat js39.size, none)) else (none)) else (none)) else (none)) else (none)) else (if 0 ≤ (wrap64 (t170 - 1)) then (if (wrap64 (t170 - 1)) < (js39.size : Int) then (if (bt js39 (wrap64 (t170 - 1))) = 92 then (fastjson_parseRawString.l0 kj19 js39 t170 a0) else (if 0 ≤ (wrap64 ((wrap64 ((a0.size : Int) - (js39.size : Int))) + t170)) then (if (wrap64 ((wrap64 ((a0.size : Int) - (js39.size : Int))) + t170)) ≤ (a0.size : Int) then (if 0 ≤ (wrap64 (t170 + 1)) then (if (wrap64 (t170 + 1)) ≤ (js39.size : Int) then (some (a0.extract 0 ((wrap64 ((wrap64 ((a0.size : Int) - (js39.size : Int))) + t170)) : Int).toNat, js39.extract ((wrap64 (t170 + 1)) : Int).toNat js39.size, none)) else (none)) else (none)) else (none)) else (none))) else (none)) else (none)))) = some (r1, r2, r3) := H
         have A40 := Aside0.mk A400
         clear A400
         by_cases c41 : t170 < 0
         ·rw [if_pos c41] at H
          have c41b0 : decide (t170 < 0) = true := decide_eq_true c41
          clear c41
          replace H := Option.bind_eq_some_iff.mp H
          obtain ⟨t171, A420, H⟩ := H
          replace H : (some (a0, (⟨#[]⟩ : ByteArray), t171)) = some (r1, r2, r3) := H
          have A42 := Aside0.mk A420
          clear A420
          simp only [Option.some.injEq, Prod.mk.injEq] at H
          obtain ⟨rfl, rfl, rfl⟩ := H
          try have hcs43 := fun W_ : World => run_slice_string_l (P := Tryd.prog) W_ 9 x0_2 Tryd.underlying9 .i64 (ji36) (of_decide_eq_true (by assumption)) (of_decide_eq_true (by assumption))
          (try simp only [hjs39] at hcs43)
          go_wp2_with (first | (go_at_call 87; (with_reducible refine (strings_IndexByte.calls js39 34 t170 _ A40.out).mono ?_); rintro e w' ⟨rfl, ⟨nd, rfl⟩⟩; (try first | exact ⟨rfl, _, World.drewN_drewN _ _ _⟩ | exact ⟨rfl, _, Eq.trans (World.drewN_drewN _ _ _) (congrArg (World.drewN _) (Nat.add_assoc _ _ _))⟩)) | (go_at_call 41; (with_reducible refine (errors_New.calls (⟨#[109, 105, 115, 115, 105, 110, 103, 32, 99, 108, 111, 115, 105, 110, 103]⟩ : ByteArray) t171 _ A42.out).mono ?_); rintro e w44 ⟨et_A42_0, ep_A42_0, rfl, hb⟩; have n0_ := Aside0.mk (below_step (by repeat (first | (with_reducible first | exact HB.out | apply below_alloc | apply pw_below_drewN | apply below_drew1) | exact HB.out)) hb); clear HB; have HB := n0_; clear n0_; (try clear hb); (try clear hb2); (try clear hk); (try clear hi); (try simp only [errW_none, errW_some, errX_none, errX_some])))
          repeat (go_quiet (first | (go_at_call 87; (with_reducible refine (strings_IndexByte.calls js39 34 t170 _ A40.out).mono ?_); rintro e w' ⟨rfl, ⟨nd, rfl⟩⟩; (try first | exact ⟨rfl, _, World.drewN_drewN _ _ _⟩ | exact ⟨rfl, _, Eq.trans (World.drewN_drewN _ _ _) (congrArg (World.drewN _) (Nat.add_assoc _ _ _))⟩)) | (go_at_call 41; (with_reducible refine (errors_New.calls (⟨#[109, 105, 115, 115, 105, 110, 103, 32, 99, 108, 111, 115, 105, 110, 103]⟩ : ByteArray) t171 _ A42.out).mono ?_); rintro e w44 ⟨et_A42_0, ep_A42_0, rfl, hb⟩; have n0_ := Aside0.mk (below_step (by repeat (first | (with_reducible first | exact HB.out | apply below_alloc | apply pw_below_drewN | apply below_drew1) | exact HB.out)) hb); clear HB; have HB := n0_; clear n0_; (try clear hb); (try clear hb2); (try clear hk); (try clear hi); (try simp only [errW_none, errW_some, errX_none, errX_some]))); try go_wp2_with (first | (go_at_call 87; (with_reducible refine (strings_IndexByte.calls js39 34 t170 _ A40.out).mono ?_); rintro e w' ⟨rfl, ⟨nd, rfl⟩⟩; (try first | exact ⟨rfl, _, World.drewN_drewN _ _ _⟩ | exact ⟨rfl, _, Eq.trans (World.drewN_drewN _ _ _) (congrArg (World.drewN _) (Nat.add_assoc _ _ _))⟩)) | (go_at_call 41; (with_reducible refine (errors_New.calls (⟨#[109, 105, 115, 115, 105, 110, 103, 32, 99, 108, 111, 115, 105, 110, 103]⟩ : ByteArray) t171 _ A42.out).mono ?_); rintro e w44 ⟨et_A42_0, ep_A42_0, rfl, hb⟩; have n0_ := Aside0.mk (below_step (by repeat (first | (with_reducible first | exact HB.out | apply below_alloc | apply pw_below_drewN | apply below_drew1) | exact HB.out)) hb); clear HB; have HB := n0_; clear n0_; (try clear hb); (try clear hb2); (try clear hk); (try clear hi); (try simp only [errW_none, errW_some, errX_none, errX_some]))))
          go_ret3
          first | exact ⟨et_A42_0, ep_A42_0, by first | rfl | (simp [errW_none, errW_some] <;> rfl) | (simp only [← hji36]; first | rfl | (simp [errW_none, errW_some] <;> rfl)) | (simp [*, errW_none, errW_some] <;> rfl) | (simp [errW_none, errW_some] <;> exact ⟨rfl, rfl⟩) | (simp [*, errW_none, errW_some] <;> exact ⟨rfl, rfl⟩), by repeat (first | (with_reducible first | exact HB.out | apply below_alloc | apply pw_below_drewN | apply below_drew1) | exact HB.out)⟩ | exact ⟨⟨et_A42_0, ep_A42_0, by first | rfl | (simp [errW_none, errW_some] <;> rfl) | (simp only [← hji36]; first | rfl | (simp [errW_none, errW_some] <;> rfl)) | (simp [*, errW_none, errW_some] <;> rfl) | (simp [errW_none, errW_some] <;> exact ⟨rfl, rfl⟩) | (simp [*, errW_none, errW_some] <;> exact ⟨rfl, rfl⟩)⟩, by repeat (first | (with_reducible first | exact HB.out | apply below_alloc | apply pw_below_drewN | apply below_drew1) | exact HB.out)⟩
         rw [if_neg c41] at H
         have c41b0 : decide (t170 < 0) = false := decide_eq_false c41
         clear c41
         by_cases c45 : t170 = 0
         ·rw [if_pos c45] at H
          have c45b0 : (t170 == 0) = true := beq_iff_eq.mpr c45
          have c45b1 : (t170 != 0) = false := bne_eq_false_iff_eq.mpr c45
          clear c45
          obtain ⟨ji46, hji46⟩ : ∃ j_ : Int, (wrap64 ((wrap64 ((a0.size : Int) - (js39.size : Int))) + t170)) = j_ := ⟨_, rfl⟩
          replace H : (if 0 ≤ (ji46) then (if (ji46) ≤ (a0.size : Int) then (if 0 ≤ (wrap64 (t170 + 1)) then (if (wrap64 (t170 + 1)) ≤ (js39.size : Int) then (some (a0.extract 0 ((ji46) : Int).toNat, js39.extract ((wrap64 (t170 + 1)) : Int).toNat js39.size, none)) else (none)) else (none)) else (none)) else (none)) = some (r1, r2, r3) := by first | (rw [hji46] at H; exact H) | (simp only [hji46] at H ⊢; exact H)
          (try rw [hji46] at hjs39)
          (try rw [hji46] at A40)
          have hji46w : (IntKind.i64.wrap ((wrap64 ((a0.size : Int) - (js39.size : Int))) + t170)) = ji46 := (i64_w _).trans hji46
          by_cases c47 : 0 ≤ (ji46)
          ·rw [if_pos c47] at H
           have c47b0 := eq_true c47
           have c47b1 : decide (0 ≤ (ji46)) = true := decide_eq_true c47
           clear c47
           by_cases c48 : (ji46) ≤ (a0.size : Int)
           ·rw [if_pos c48] at H
            have c48b0 := eq_true c48
            have c48b1 : decide ((ji46) ≤ (a0.size : Int)) = true := decide_eq_true c48
            clear c48
            obtain ⟨ji49, hji49⟩ : ∃ j_ : Int, (wrap64 (t170 + 1)) = j_ := ⟨_, rfl⟩
            replace H : (if 0 ≤ (ji49) then (if (ji49) ≤ (js39.size : Int) then (some (a0.extract 0 ((ji46) : Int).toNat, js39.extract ((ji49) : Int).toNat js39.size, none)) else (none)) else (none)) = some (r1, r2, r3) := by first | (rw [hji49] at H; exact H) | (simp only [hji49] at H ⊢; exact H)
            (try rw [hji49] at hjs39)
            (try rw [hji49] at A40)
            have hji49w : (IntKind.i64.wrap (t170 + 1)) = ji49 := (i64_w _).trans hji49
            by_cases c50 : 0 ≤ (ji49)
            ·rw [if_pos c50] at H
             have c50b0 := eq_true c50
             have c50b1 : decide (0 ≤ (ji49)) = true := decide_eq_true c50
             clear c50
             by_cases c51 : (ji49) ≤ (js39.size : Int)
             ·rw [if_pos c51] at H
              have c51b0 := eq_true c51
              have c51b1 : decide ((ji49) ≤ (js39.size : Int)) = true := decide_eq_true c51
              clear c51
              simp only [Option.some.injEq, Prod.mk.injEq] at H
              obtain ⟨rfl, rfl, rfl⟩ := H
              try have hcs52 := fun W_ : World => run_slice_string_l (P := Tryd.prog) W_ 9 x0_2 Tryd.underlying9 .i64 (ji36) (of_decide_eq_true (by assumption)) (of_decide_eq_true (by assumption))
              (try simp only [hjs39] at hcs52)
              go_wp2_with (first | (go_at_call 87; (with_reducible refine (strings_IndexByte.calls js39 34 t170 _ A40.out).mono ?_); rintro e w' ⟨rfl, ⟨nd, rfl⟩⟩; (try first | exact ⟨rfl, _, World.drewN_drewN _ _ _⟩ | exact ⟨rfl, _, Eq.trans (World.drewN_drewN _ _ _) (congrArg (World.drewN _) (Nat.add_assoc _ _ _))⟩); try have hcs53 := fun W_ : World => run_slice_string_h (P := Tryd.prog) W_ 9 a0 Tryd.underlying9 .i64 (ji46) (of_decide_eq_true (by assumption)) (of_decide_eq_true (by assumption)); try have hcs54 := fun W_ : World => run_slice_string_l (P := Tryd.prog) W_ 9 js39 Tryd.underlying9 .i64 (ji49) (of_decide_eq_true (by assumption)) (of_decide_eq_true (by assumption))))
              repeat (go_quiet (first | (go_at_call 87; (with_reducible refine (strings_IndexByte.calls js39 34 t170 _ A40.out).mono ?_); rintro e w' ⟨rfl, ⟨nd, rfl⟩⟩; (try first | exact ⟨rfl, _, World.drewN_drewN _ _ _⟩ | exact ⟨rfl, _, Eq.trans (World.drewN_drewN _ _ _) (congrArg (World.drewN _) (Nat.add_assoc _ _ _))⟩); try have hcs53 := fun W_ : World => run_slice_string_h (P := Tryd.prog) W_ 9 a0 Tryd.underlying9 .i64 (ji46) (of_decide_eq_true (by assumption)) (of_decide_eq_true (by assumption)); try have hcs54 := fun W_ : World => run_slice_string_l (P := Tryd.prog) W_ 9 js39 Tryd.underlying9 .i64 (ji49) (of_decide_eq_true (by assumption)) (of_decide_eq_true (by assumption)))); try go_wp2_with (first | (go_at_call 87; (with_reducible refine (strings_IndexByte.calls js39 34 t170 _ A40.out).mono ?_); rintro e w' ⟨rfl, ⟨nd, rfl⟩⟩; (try first | exact ⟨rfl, _, World.drewN_drewN _ _ _⟩ | exact ⟨rfl, _, Eq.trans (World.drewN_drewN _ _ _) (congrArg (World.drewN _) (Nat.add_assoc _ _ _))⟩); try have hcs53 := fun W_ : World => run_slice_string_h (P := Tryd.prog) W_ 9 a0 Tryd.underlying9 .i64 (ji46) (of_decide_eq_true (by assumption)) (of_decide_eq_true (by assumption)); try have hcs54 := fun W_ : World => run_slice_string_l (P := Tryd.prog) W_ 9 js39 Tryd.underlying9 .i64 (ji49) (of_decide_eq_true (by assumption)) (of_decide_eq_true (by assumption)))))
              go_ret3
              first | exact ⟨0, .nilIface, by first | rfl | (simp [errW_none, errW_some] <;> rfl) | (simp only [← hji36, ← hji46, ← hji49]; first | rfl | (simp [errW_none, errW_some] <;> rfl)) | (simp [*, errW_none, errW_some] <;> rfl) | (simp [errW_none, errW_some] <;> exact ⟨rfl, rfl⟩) | (simp [*, errW_none, errW_some] <;> exact ⟨rfl, rfl⟩), by repeat (first | (with_reducible first | exact HB.out | apply below_alloc | apply pw_below_drewN | apply below_drew1) | exact HB.out)⟩ | exact ⟨⟨0, .nilIface, by first | rfl | (simp [errW_none, errW_some] <;> rfl) | (simp only [← hji36, ← hji46, ← hji49]; first | rfl | (simp [errW_none, errW_some] <;> rfl)) | (simp [*, errW_none, errW_some] <;> rfl) | (simp [errW_none, errW_some] <;> exact ⟨rfl, rfl⟩) | (simp [*, errW_none, errW_some] <;> exact ⟨rfl, rfl⟩)⟩, by repeat (first | (with_reducible first | exact HB.out | apply below_alloc | apply pw_below_drewN | apply below_drew1) | exact HB.out)⟩
             rw [if_neg c51] at H
             exact absurd H (by simp)
            rw [if_neg c50] at H
            exact absurd H (by simp)
           rw [if_neg c48] at H
           exact absurd H (by simp)
          rw [if_neg c47] at H
          exact absurd H (by simp)
         rw [if_neg c45] at H
         have c45b0 : (t170 == 0) = false := beq_eq_false_iff_ne.mpr c45
         have c45b1 : (t170 != 0) = true := bne_iff_ne.mpr c45
         obtain ⟨ji55, hji55⟩ : ∃ j_ : Int, (wrap64 (t170 - 1)) = j_ := ⟨_, rfl⟩
         replace H : (if 0 ≤ (ji55) then (if (ji55) < (js39.size : Int) then (if (bt js39 (ji55)) = 92 then (fastjson_parseRawString.l0 kj19 js39 t170 a0) else (if 0 ≤ (wrap64 ((wrap64 ((a0.size : Int) - (js39.size : Int))) + t170)) then (if (wrap64 ((wrap64 ((a0.size : Int) - (js39.size : Int))) + t170)) ≤ (a0.size : Int) then (if 0 ≤ (wrap64 (t170 + 1)) then (if (wrap64 (t170 + 1)) ≤ (js39.size : Int) then (some (a0.extract 0 ((wrap64 ((wrap64 ((a0.size : Int) - (js39.size : Int))) + t170)) : Int).toNat, js39.extract ((wrap64 (t170 + 1)) : Int).toNat js39.size, none)) else (none)) else (none)) else (none)) else (none))) else (none)) else (none)) = some (r1, r2, r3) := by first | (rw [hji55] at H; exact H) | (simp only [hji55] at H ⊢; exact H)
         (try rw [hji55] at hjs39)
         (try rw [hji55] at A40)
         have hji55w : (IntKind.i64.wrap (t170 - 1)) = ji55 := (i64_w _).trans hji55
         by_cases c56 : 0 ≤ (ji55)
         ·rw [if_pos c56] at H
          have c56b0 : decide (0 ≤ (ji55)) = true := decide_eq_true c56
          clear c56
          by_cases c57 : (ji55) < (js39.size : Int)
          ·rw [if_pos c57] at H
           have c57b0 : decide ((ji55) < (js39.size : Int)) = true := decide_eq_true c57
           clear c57
           by_cases c59 : (bt js39 (ji55)) = 92
           ·rw [if_pos c59] at H
            have c59b0 : ((bt js39 (ji55)) == 92) = true := beq_iff_eq.mpr c59
            have c59b1 : ((bt js39 (ji55)) != 92) = false := bne_eq_false_iff_eq.mpr c59
            clear c59
            have H' := Aside0.mk H
            clear H
            try have hcs60 := fun W_ : World => run_slice_string_l (P := Tryd.prog) W_ 9 x0_2 Tryd.underlying9 .i64 (ji36) (of_decide_eq_true (by assumption)) (of_decide_eq_true (by assumption))
            (try simp only [hjs39] at hcs60)
            go_wp2_with (first | (go_at_call 87; (with_reducible refine (strings_IndexByte.calls js39 34 t170 _ A40.out).mono ?_); rintro e w' ⟨rfl, ⟨nd, rfl⟩⟩; (try first | exact ⟨rfl, _, World.drewN_drewN _ _ _⟩ | exact ⟨rfl, _, Eq.trans (World.drewN_drewN _ _ _) (congrArg (World.drewN _) (Nat.add_assoc _ _ _))⟩); have p58 : 0 ≤ ((ji55) : Int) := of_decide_eq_true (by assumption); have q58 : (ji55) < (js39.size : Int) := of_decide_eq_true (by assumption); have hx58 := bt_at js39 (ji55); replace p58 := eq_true p58; replace q58 := eq_true q58))
            repeat (go_quiet (first | (go_at_call 87; (with_reducible refine (strings_IndexByte.calls js39 34 t170 _ A40.out).mono ?_); rintro e w' ⟨rfl, ⟨nd, rfl⟩⟩; (try first | exact ⟨rfl, _, World.drewN_drewN _ _ _⟩ | exact ⟨rfl, _, Eq.trans (World.drewN_drewN _ _ _) (congrArg (World.drewN _) (Nat.add_assoc _ _ _))⟩); have p58 : 0 ≤ ((ji55) : Int) := of_decide_eq_true (by assumption); have q58 : (ji55) < (js39.size : Int) := of_decide_eq_true (by assumption); have hx58 := bt_at js39 (ji55); replace p58 := eq_true p58; replace q58 := eq_true q58)); try go_wp2_with (first | (go_at_call 87; (with_reducible refine (strings_IndexByte.calls js39 34 t170 _ A40.out).mono ?_); rintro e w' ⟨rfl, ⟨nd, rfl⟩⟩; (try first | exact ⟨rfl, _, World.drewN_drewN _ _ _⟩ | exact ⟨rfl, _, Eq.trans (World.drewN_drewN _ _ _) (congrArg (World.drewN _) (Nat.add_assoc _ _ _))⟩); have p58 : 0 ≤ ((ji55) : Int) := of_decide_eq_true (by assumption); have q58 : (ji55) < (js39.size : Int) := of_decide_eq_true (by assumption); have hx58 := bt_at js39 (ji55); replace p58 := eq_true p58; replace q58 := eq_true q58)))
            go_roundg kj19
            case measure => have := HJ5.out; have := HK2.out; have := HJ19.out; omega
            case rel => exact ⟨(js39), (t170), (by first | rfl | (simp; done) | (simp [*]; done)), (by first | rfl | (simp; done) | (simp [*]; done)), H', ⟨by have := HJ5.out; have := HK2.out; have := HJ19.out; omega⟩, ⟨by repeat (first | (with_reducible first | exact HB.out | apply below_alloc | apply pw_below_drewN | apply below_drew1) | exact HB.out)⟩⟩
           rw [if_neg c59] at H
           have c59b0 : ((bt js39 (ji55)) == 92) = false := beq_eq_false_iff_ne.mpr c59
           have c59b1 : ((bt js39 (ji55)) != 92) = true := bne_iff_ne.mpr c59
           obtain ⟨ji61, hji61⟩ : ∃ j_ : Int, (wrap64 ((wrap64 ((a0.size : Int) - (js39.size : Int))) + t170)) = j_ := ⟨_, rfl⟩
           replace H : (if 0 ≤ (ji61) then (if (ji61) ≤ (a0.size : Int) then (if 0 ≤ (wrap64 (t170 + 1)) then (if (wrap64 (t170 + 1)) ≤ (js39.size : Int) then (some (a0.extract 0 ((ji61) : Int).toNat, js39.extract ((wrap64 (t170 + 1)) : Int).toNat js39.size, none)) else (none)) else (none)) else (none)) else (none)) = some (r1, r2, r3) := by first | (rw [hji61] at H; exact H) | (simp only [hji61] at H ⊢; exact H)
           (try rw [hji61] at hjs39)
           (try rw [hji61] at A40)
           have hji61w : (IntKind.i64.wrap ((wrap64 ((a0.size : Int) - (js39.size : Int))) + t170)) = ji61 := (i64_w _).trans hji61
           by_cases c62 : 0 ≤ (ji61)
           ·rw [if_pos c62] at H
            have c62b0 := eq_true c62
            have c62b1 : decide (0 ≤ (ji61)) = true := decide_eq_true c62
            clear c62
            by_cases c63 : (ji61) ≤ (a0.size : Int)
            ·rw [if_pos c63] at H
             have c63b0 := eq_true c63
             have c63b1 : decide ((ji61) ≤ (a0.size : Int)) = true := decide_eq_true c63
             clear c63
             obtain ⟨ji64, hji64⟩ : ∃ j_ : Int, (wrap64 (t170 + 1)) = j_ := ⟨_, rfl⟩
             replace H : (if 0 ≤ (ji64) then (if (ji64) ≤ (js39.size : Int) then (some (a0.extract 0 ((ji61) : Int).toNat, js39.extract ((ji64) : Int).toNat js39.size, none)) else (none)) else (none)) = some (r1, r2, r3) := by first | (rw [hji64] at H; exact H) | (simp only [hji64] at H ⊢; exact H)
             (try rw [hji64] at hjs39)
             (try rw [hji64] at A40)
             have hji64w : (IntKind.i64.wrap (t170 + 1)) = ji64 := (i64_w _).trans hji64
             by_cases c65 : 0 ≤ (ji64)
             ·rw [if_pos c65] at H
              have c65b0 := eq_true c65
              have c65b1 : decide (0 ≤ (ji64)) = true := decide_eq_true c65
              clear c65
              by_cases c66 : (ji64) ≤ (js39.size : Int)
              ·rw [if_pos c66] at H
               have c66b0 := eq_true c66
               have c66b1 : decide ((ji64) ≤ (js39.size : Int)) = true := decide_eq_true c66
               clear c66
               simp only [Option.some.injEq, Prod.mk.injEq] at H
               obtain ⟨rfl, rfl, rfl⟩ := H
               try have hcs67 := fun W_ : World => run_slice_string_l (P := Tryd.prog) W_ 9 x0_2 Tryd.underlying9 .i64 (ji36) (of_decide_eq_true (by assumption)) (of_decide_eq_true (by assumption))
               (try simp only [hjs39] at hcs67)
               go_wp2_with (first | (go_at_call 87; (with_reducible refine (strings_IndexByte.calls js39 34 t170 _ A40.out).mono ?_); rintro e w' ⟨rfl, ⟨nd, rfl⟩⟩; (try first | exact ⟨rfl, _, World.drewN_drewN _ _ _⟩ | exact ⟨rfl, _, Eq.trans (World.drewN_drewN _ _ _) (congrArg (World.drewN _) (Nat.add_assoc _ _ _))⟩); have p58 : 0 ≤ ((ji55) : Int) := of_decide_eq_true (by assumption); have q58 : (ji55) < (js39.size : Int) := of_decide_eq_true (by assumption); have hx58 := bt_at js39 (ji55); replace p58 := eq_true p58; replace q58 := eq_true q58; try have hcs68 := fun W_ : World => run_slice_string_h (P := Tryd.prog) W_ 9 a0 Tryd.underlying9 .i64 (ji61) (of_decide_eq_true (by assumption)) (of_decide_eq_true (by assumption)); try have hcs69 := fun W_ : World => run_slice_string_l (P := Tryd.prog) W_ 9 js39 Tryd.underlying9 .i64 (ji64) (of_decide_eq_true (by assumption)) (of_decide_eq_true (by assumption))))
               repeat (go_quiet (first | (go_at_call 87; (with_reducible refine (strings_IndexByte.calls js39 34 t170 _ A40.out).mono ?_); rintro e w' ⟨rfl, ⟨nd, rfl⟩⟩; (try first | exact ⟨rfl, _, World.drewN_drewN _ _ _⟩ | exact ⟨rfl, _, Eq.trans (World.drewN_drewN _ _ _) (congrArg (World.drewN _) (Nat.add_assoc _ _ _))⟩); have p58 : 0 ≤ ((ji55) : Int) := of_decide_eq_true (by assumption); have q58 : (ji55) < (js39.size : Int) := of_decide_eq_true (by assumption); have hx58 := bt_at js39 (ji55); replace p58 := eq_true p58; replace q58 := eq_true q58; try have hcs68 := fun W_ : World => run_slice_string_h (P := Tryd.prog) W_ 9 a0 Tryd.underlying9 .i64 (ji61) (of_decide_eq_true (by assumption)) (of_decide_eq_true (by assumption)); try have hcs69 := fun W_ : World => run_slice_string_l (P := Tryd.prog) W_ 9 js39 Tryd.underlying9 .i64 (ji64) (of_decide_eq_true (by assumption)) (of_decide_eq_true (by assumption)))); try go_wp2_with (first | (go_at_call 87; (with_reducible refine (strings_IndexByte.calls js39 34 t170 _ A40.out).mono ?_); rintro e w' ⟨rfl, ⟨nd, rfl⟩⟩; (try first | exact ⟨rfl, _, World.drewN_drewN _ _ _⟩ | exact ⟨rfl, _, Eq.trans (World.drewN_drewN _ _ _) (congrArg (World.drewN _) (Nat.add_assoc _ _ _))⟩); have p58 : 0 ≤ ((ji55) : Int) := of_decide_eq_true (by assumption); have q58 : (ji55) < (js39.size : Int) := of_decide_eq_true (by assumption); have hx58 := bt_at js39 (ji55); replace p58 := eq_true p58; replace q58 := eq_true q58; try have hcs68 := fun W_ : World => run_slice_string_h (P := Tryd.prog) W_ 9 a0 Tryd.underlying9 .i64 (ji61) (of_decide_eq_true (by assumption)) (of_decide_eq_true (by assumption)); try have hcs69 := fun W_ : World => run_slice_string_l (P := Tryd.prog) W_ 9 js39 Tryd.underlying9 .i64 (ji64) (of_decide_eq_true (by assumption)) (of_decide_eq_true (by assumption)))))
               go_ret3
               first | exact ⟨0, .nilIface, by first | rfl | (simp [errW_none, errW_some] <;> rfl) | (simp only [← hji36, ← hji55, ← hji61, ← hji64]; first | rfl | (simp [errW_none, errW_some] <;> rfl)) | (simp [*, errW_none, errW_some] <;> rfl) | (simp [errW_none, errW_some] <;> exact ⟨rfl, rfl⟩) | (simp [*, errW_none, errW_some] <;> exact ⟨rfl, rfl⟩), by repeat (first | (with_reducible first | exact HB.out | apply below_alloc | apply pw_below_drewN | apply below_drew1) | exact HB.out)⟩ | exact ⟨⟨0, .nilIface, by first | rfl | (simp [errW_none, errW_some] <;> rfl) | (simp only [← hji36, ← hji55, ← hji61, ← hji64]; first | rfl | (simp [errW_none, errW_some] <;> rfl)) | (simp [*, errW_none, errW_some] <;> rfl) | (simp [errW_none, errW_some] <;> exact ⟨rfl, rfl⟩) | (simp [*, errW_none, errW_some] <;> exact ⟨rfl, rfl⟩)⟩, by repeat (first | (with_reducible first | exact HB.out | apply below_alloc | apply pw_below_drewN | apply below_drew1) | exact HB.out)⟩
              rw [if_neg c66] at H
              exact absurd H (by simp)
             rw [if_neg c65] at H
             exact absurd H (by simp)
            rw [if_neg c63] at H
            exact absurd H (by simp)
           rw [if_neg c62] at H
           exact absurd H (by simp)
          rw [if_neg c57] at H
          exact absurd H (by simp)
         rw [if_neg c56] at H
         exact absurd H (by simp)
        rw [if_neg c38] at H
        exact absurd H (by simp)
       rw [if_neg c37] at H
       exact absurd H (by simp)
end Go.Proofs.YtnajijaachgipaaDoor.PR
end
section
namespace Go.Proofs.YtnajijaachgipaaDoor.PR
open Go.RowKit Go.Proofs.YtnajijaachgipaaDoorW.PrintWords Go.Proofs.YtnajijaachgipaaDoorW.PrintLast Go.Proofs.YtnajijaachgipaaDoorW.PrintMore
attribute [local go_sem] max2_int min2_int max_two min_two max_three min_three max_four min_four   -- for this text's walks alone
set_option linter.unusedVariables false
set_option linter.unusedSimpArgs false
/-! ### fastjson_zzFold: function 74 -/
mutual
def fastjson_zzFold.l0 : Nat → ByteArray → ByteArray → Int → Option (Bool)
 | 0, _, _, _ => none
 | k + 1, x0, x1, x5 => if x5 < (x0.size : Int) then (if 0 ≤ x5 then (if 65 ≤ (bt x0 x5) then (fastjson_zzFold.j1 k x0 x1 x5 (bt x0 x5) (decide ((bt x0 x5) ≤ 90))) else (fastjson_zzFold.j1 k x0 x1 x5 (bt x0 x5) false)) else (none)) else (some true)
def fastjson_zzFold.j1 : Nat → ByteArray → ByteArray → Int → Int → Bool → Option (Bool)
 | 0, _, _, _, _, _ => none
 | k + 1, x0, x1, x5, x6, x26 => if x26 = true then (if 0 ≤ x5 then (if x5 < (x1.size : Int) then (if ((x6 + 32) % 256) = (bt x1 x5) then (fastjson_zzFold.l0 k x0 x1 (wrap64 (x5 + 1))) else (some false)) else (none)) else (none)) else (if 0 ≤ x5 then (if x5 < (x1.size : Int) then (if x6 = (bt x1 x5) then (fastjson_zzFold.l0 k x0 x1 (wrap64 (x5 + 1))) else (some false)) else (none)) else (none))
end
def fastjson_zzFold.f (k : Nat) (a0 : ByteArray) (a1 : ByteArray) : Option (Bool) := if (a0.size : Int) = (a1.size : Int) then (fastjson_zzFold.l0 k a0 a1 0) else (some false)
theorem fastjson_zzFold.mono_l : ∀ k, (∀ y0 y1 y2, LeO (fastjson_zzFold.l0 k y0 y1 y2) (fastjson_zzFold.l0 (k + 1) y0 y1 y2)) ∧ (∀ y0 y1 y2 y3 y4, LeO (fastjson_zzFold.j1 k y0 y1 y2 y3 y4) (fastjson_zzFold.j1 (k + 1) y0 y1 y2 y3 y4))
 | 0 => ⟨fun _ _ _ r h => by simp [fastjson_zzFold.l0] at h, fun _ _ _ _ _ r h => by simp [fastjson_zzFold.j1] at h⟩
 | k + 1 => by
  obtain ⟨ih0, ih1⟩ := fastjson_zzFold.mono_l k
  refine ⟨?_, ?_⟩
  ·intro y0 y1 y2
   unfold fastjson_zzFold.l0
   repeat' first
   | (with_reducible exact ih0 _ _ _)
   | (with_reducible exact ih1 _ _ _ _ _)
   | (with_reducible exact LeO.refl _)
   | (with_reducible exact LeO.none _)
   | (with_reducible refine LeO.ite ?_ ?_)
   | (with_reducible refine LeO.bind ?_ (fun _ => ?_))
   | exact ih0 _ _ _
   | exact ih1 _ _ _ _ _
   | exact LeO.none _
   | refine LeO.ite ?_ ?_
   | refine LeO.bind ?_ (fun _ => ?_)
  intro y0 y1 y2 y3 y4
  unfold fastjson_zzFold.j1
  repeat' first
  | (with_reducible exact ih0 _ _ _)
  | (with_reducible exact ih1 _ _ _ _ _)
  | (with_reducible exact LeO.refl _)
  | (with_reducible exact LeO.none _)
  | (with_reducible refine LeO.ite ?_ ?_)
  | (with_reducible refine LeO.bind ?_ (fun _ => ?_))
  | exact ih0 _ _ _
  | exact ih1 _ _ _ _ _
  | exact LeO.none _
  | refine LeO.ite ?_ ?_
  | refine LeO.bind ?_ (fun _ => ?_)
theorem fastjson_zzFold.mono : ∀ a0 a1 k, LeO (fastjson_zzFold.f k a0 a1) (fastjson_zzFold.f (k + 1) a0 a1) := by
 intro a0 a1 k
 obtain ⟨ih0, ih1⟩ := fastjson_zzFold.mono_l k
 unfold fastjson_zzFold.f
 repeat' first
   | (with_reducible exact ih0 _ _ _)
   | (with_reducible exact ih1 _ _ _ _ _)
   | (with_reducible exact LeO.refl _)
   | (with_reducible exact LeO.none _)
   | (with_reducible refine LeO.ite ?_ ?_)
   | (with_reducible refine LeO.bind ?_ (fun _ => ?_))
   | exact ih0 _ _ _
   | exact ih1 _ _ _ _ _
   | exact LeO.none _
   | refine LeO.ite ?_ ?_
   | refine LeO.bind ?_ (fun _ => ?_)
set_option maxHeartbeats 8000000 in
set_option maxRecDepth 100000 in
theorem fastjson_zzFold.calls (k : Nat) (a0 : ByteArray) (a1 : ByteArray) (r : Bool) (w : World) (h : fastjson_zzFold.f k a0 a1 = some r) :
  Calls Tryd.prog 74 #[.string a0, .string a1] w fun e w' => e = .returned (.bool r) ∧ Drawn0 w w' := by
 have H : (if (a0.size : Int) = (a1.size : Int) then (fastjson_zzFold.l0 k a0 a1 0) else (some false)) = some r := h
 clear h
 by_cases c3 : (a0.size : Int) = (a1.size : Int)
 ·rw [if_pos c3] at H
  have c3b0 : ((a0.size : Int) == (a1.size : Int)) = true := beq_iff_eq.mpr c3
  have c3b1 : ((a0.size : Int) != (a1.size : Int)) = false := bne_eq_false_iff_eq.mpr c3
  have c3b2 : decide (a0.size = a1.size) = true := decide_eq_true (by omega)
  clear c3
  have H' := Aside0.mk H
  clear H
  go_enter Tryd.func74, Tryd.ntmps74
  go_wp2
  try simp only [Act.put, List.setIfInBounds_toArray, List.set_cons_succ, List.set_cons_zero]
  go_loopg [5] k (fun kq v5 w' => ∃ (x5_1 : Int), v5 = .int .i64 x5_1 ∧ Aside0 (fastjson_zzFold.l0 kq a0 a1 x5_1 = some r) ∧ Aside0 (kq ≤ k) ∧ Drawn0 w w')
  case atStart => exact ⟨(0), (by first | rfl | (simp; done) | (simp [*]; done)), H', ⟨Nat.le_refl _⟩, by repeat (first | exact Drawn0.refl _ | apply Drawn0.step)⟩
  case round =>
   clear H'
   try clear p2
   try clear c3
   try clear c3b0
   try clear c3b1
   try clear c3b2
   obtain ⟨x5_1, rfl, HA, HK1, ⟨m1, rfl⟩⟩ := hrel
   cases gk with
   | zero => exact absurd HA.out (by simp [fastjson_zzFold.l0])
   | succ k1 =>
    have H := HA.out
    clear HA
    simp only [fastjson_zzFold.l0] at H
    by_cases c4 : x5_1 < (a0.size : Int)
    ·rw [if_pos c4] at H
     have c4b0 : decide (x5_1 < (a0.size : Int)) = true := decide_eq_true c4
     clear c4
     by_cases c5 : 0 ≤ x5_1
     ·rw [if_pos c5] at H
      have c5b0 : decide (0 ≤ x5_1) = true := decide_eq_true c5
      clear c5
      have HC7 := Aside0.mk H
      clear H
      have p6 : 0 ≤ (x5_1 : Int) := of_decide_eq_true (by assumption)
      have q6 : x5_1 < (a0.size : Int) := of_decide_eq_true (by assumption)
      have hx6 := bt_at a0 x5_1
      replace p6 := eq_true p6
      replace q6 := eq_true q6
      go_upto_region 7 with (fail)
      go_cut [26] (fun v26 wc => ∃ (kq : Nat) (x26_6 : Bool), v26 = .bool x26_6 ∧ Aside0 (fastjson_zzFold.j1 kq a0 a1 x5_1 (bt a0 x5_1) x26_6 = some r) ∧ Aside0 (kq ≤ k1) ∧ Drawn0 w wc)
      case first =>
       have H := HC7.out
       clear HC7
       by_cases c8 : 65 ≤ (bt a0 x5_1)
       ·rw [if_pos c8] at H
        have c8b0 : decide (65 ≤ (bt a0 x5_1)) = true := decide_eq_true c8
        clear c8
        (first | rw [c8b0] | (simp only [i64_w, i32_w]; rw [c8b0]) | rw [c8b1] | skip)
        have H' := Aside0.mk H
        clear H
        go_wp2
        go_meet
        case rel => exact ⟨_, (decide ((bt a0 x5_1) ≤ 90)), (by first | rfl | (simp; done) | (simp [*]; done)), H', ⟨by have := HK1.out; first | omega | exact Nat.le_refl _⟩, by repeat (first | exact Drawn0.refl _ | apply Drawn0.step)⟩
       rw [if_neg c8] at H
       have c8b0 : decide (65 ≤ (bt a0 x5_1)) = false := decide_eq_false c8
       clear c8
       (first | rw [c8b0] | (simp only [i64_w, i32_w]; rw [c8b0]) | rw [c8b1] | skip)
       have H' := Aside0.mk H
       clear H
       go_wp2
       go_meet
       case rel => exact ⟨_, (false), (by first | rfl | (simp; done) | (simp [*]; done)), H', ⟨by have := HK1.out; first | omega | exact Nat.le_refl _⟩, by repeat (first | exact Drawn0.refl _ | apply Drawn0.step)⟩
      case rest =>
       clear HC7
       try clear p2
       try clear c3
       try clear c3b0
       try clear c3b1
       try clear c3b2
       try clear c4
       try clear c4b0
       try clear c5
       try clear c5b0
       try clear p6
       try clear q6
       try clear hx6
       try clear c7
       try clear c8
       try clear c8b0
       try clear c8b1
       try clear p2
       try clear p6
       try clear q6
       obtain ⟨kq, x26_6, rfl, HA, HJ6, ⟨mc6, rfl⟩⟩ := hcut
       cases kq with
       | zero => exact absurd HA.out (by simp [fastjson_zzFold.j1])
       | succ kj6 =>
        have H := HA.out
        clear HA
        simp only [fastjson_zzFold.j1] at H
        by_cases c9 : x26_6 = true
        ·subst c9
         have H1 : (if 0 ≤ x5_1 then (if x5_1 < (a1.size : Int) then (if (((bt a0 x5_1) + 32) % 256) = (bt a1 x5_1) then (fastjson_zzFold.l0 kj6 a0 a1 (wrap64 (x5_1 + 1))) else (some false)) else (none)) else (none)) = some r := by rw [if_pos rfl] at H; exact H
         clear H
         have H := H1
         clear H1
         by_cases c10 : 0 ≤ x5_1
         ·rw [if_pos c10] at H
          have c10b0 : decide (0 ≤ x5_1) = true := decide_eq_true c10
          clear c10
          by_cases c11 : x5_1 < (a1.size : Int)
          ·rw [if_pos c11] at H
           have c11b0 : decide (x5_1 < (a1.size : Int)) = true := decide_eq_true c11
           clear c11
           by_cases c13 : (((bt a0 x5_1) + 32) % 256) = (bt a1 x5_1)
           ·rw [if_pos c13] at H
            have c13b0 : ((((bt a0 x5_1) + 32) % 256) == (bt a1 x5_1)) = true := beq_iff_eq.mpr c13
            have c13b1 : ((((bt a0 x5_1) + 32) % 256) != (bt a1 x5_1)) = false := bne_eq_false_iff_eq.mpr c13
            clear c13
            have H' := Aside0.mk H
            clear H
            have p12 : 0 ≤ (x5_1 : Int) := of_decide_eq_true (by assumption)
            have q12 : x5_1 < (a1.size : Int) := of_decide_eq_true (by assumption)
            have hx12 := bt_at a1 x5_1
            replace p12 := eq_true p12
            replace q12 := eq_true q12
            go_wp2
            go_roundg kj6
            case measure => have := HK1.out; have := HJ6.out; omega
            case rel => exact ⟨(wrap64 (x5_1 + 1)), (by first | rfl | (simp; done) | (simp [*]; done)), H', ⟨by have := HK1.out; have := HJ6.out; omega⟩, by repeat (first | exact Drawn0.refl _ | apply Drawn0.step)⟩
           rw [if_neg c13] at H
           have c13b0 : ((((bt a0 x5_1) + 32) % 256) == (bt a1 x5_1)) = false := beq_eq_false_iff_ne.mpr c13
           have c13b1 : ((((bt a0 x5_1) + 32) % 256) != (bt a1 x5_1)) = true := bne_iff_ne.mpr c13
           obtain rfl := Option.some.inj H
           have p12 : 0 ≤ (x5_1 : Int) := of_decide_eq_true (by assumption)
           have q12 : x5_1 < (a1.size : Int) := of_decide_eq_true (by assumption)
           have hx12 := bt_at a1 x5_1
           replace p12 := eq_true p12
           replace q12 := eq_true q12
           go_wp2
           go_ret
           exact ⟨by first | rfl | (simp; done) | (simp [*]; done), by repeat (first | exact Drawn0.refl _ | apply Drawn0.step)⟩
          rw [if_neg c11] at H
          exact absurd H (by simp)
         rw [if_neg c10] at H
         exact absurd H (by simp)
        replace c9 := Bool.eq_false_iff.mpr c9
        subst c9
        have H1 : (if 0 ≤ x5_1 then (if x5_1 < (a1.size : Int) then (if (bt a0 x5_1) = (bt a1 x5_1) then (fastjson_zzFold.l0 kj6 a0 a1 (wrap64 (x5_1 + 1))) else (some false)) else (none)) else (none)) = some r := by rw [if_neg (show ¬ (false = true) by decide)] at H; exact H
        clear H
        have H := H1
        clear H1
        by_cases c14 : 0 ≤ x5_1
        ·rw [if_pos c14] at H
         have c14b0 : decide (0 ≤ x5_1) = true := decide_eq_true c14
         clear c14
         by_cases c15 : x5_1 < (a1.size : Int)
         ·rw [if_pos c15] at H
          have c15b0 : decide (x5_1 < (a1.size : Int)) = true := decide_eq_true c15
          clear c15
          by_cases c17 : (bt a0 x5_1) = (bt a1 x5_1)
          ·rw [if_pos c17] at H
           have c17b0 : ((bt a0 x5_1) == (bt a1 x5_1)) = true := beq_iff_eq.mpr c17
           have c17b1 : ((bt a0 x5_1) != (bt a1 x5_1)) = false := bne_eq_false_iff_eq.mpr c17
           clear c17
           have H' := Aside0.mk H
           clear H
           have p16 : 0 ≤ (x5_1 : Int) := of_decide_eq_true (by assumption)
           have q16 : x5_1 < (a1.size : Int) := of_decide_eq_true (by assumption)
           have hx16 := bt_at a1 x5_1
           replace p16 := eq_true p16
           replace q16 := eq_true q16
           go_wp2
           go_roundg kj6
           case measure => have := HK1.out; have := HJ6.out; omega
           case rel => exact ⟨(wrap64 (x5_1 + 1)), (by first | rfl | (simp; done) | (simp [*]; done)), H', ⟨by have := HK1.out; have := HJ6.out; omega⟩, by repeat (first | exact Drawn0.refl _ | apply Drawn0.step)⟩
          rw [if_neg c17] at H
          have c17b0 : ((bt a0 x5_1) == (bt a1 x5_1)) = false := beq_eq_false_iff_ne.mpr c17
          have c17b1 : ((bt a0 x5_1) != (bt a1 x5_1)) = true := bne_iff_ne.mpr c17
          obtain rfl := Option.some.inj H
          have p16 : 0 ≤ (x5_1 : Int) := of_decide_eq_true (by assumption)
          have q16 : x5_1 < (a1.size : Int) := of_decide_eq_true (by assumption)
          have hx16 := bt_at a1 x5_1
          replace p16 := eq_true p16
          replace q16 := eq_true q16
          go_wp2
          go_ret
          exact ⟨by first | rfl | (simp; done) | (simp [*]; done), by repeat (first | exact Drawn0.refl _ | apply Drawn0.step)⟩
         rw [if_neg c15] at H
         exact absurd H (by simp)
        rw [if_neg c14] at H
        exact absurd H (by simp)
     rw [if_neg c5] at H
     exact absurd H (by simp)
    rw [if_neg c4] at H
    have c4b0 : decide (x5_1 < (a0.size : Int)) = false := decide_eq_false c4
    clear c4
    obtain rfl := Option.some.inj H
    go_wp2
    go_ret
    exact ⟨by first | rfl | (simp; done) | (simp [*]; done), by repeat (first | exact Drawn0.refl _ | apply Drawn0.step)⟩
 rw [if_neg c3] at H
 have c3b0 : ((a0.size : Int) == (a1.size : Int)) = false := beq_eq_false_iff_ne.mpr c3
 have c3b1 : ((a0.size : Int) != (a1.size : Int)) = true := bne_iff_ne.mpr c3
 have c3b2 : decide (a0.size = a1.size) = false := decide_eq_false (by omega)
 obtain rfl := Option.some.inj H
 go_enter Tryd.func74, Tryd.ntmps74
 go_wp2
 go_ret
 exact ⟨by first | rfl | (simp; done) | (simp [*]; done), by repeat (first | exact Drawn0.refl _ | apply Drawn0.step)⟩
end Go.Proofs.YtnajijaachgipaaDoor.PR
end
section
namespace Go.Proofs.YtnajijaachgipaaDoor.PR
open Go.RowKit Go.Proofs.YtnajijaachgipaaDoorW.PrintWords Go.Proofs.YtnajijaachgipaaDoorW.PrintLast Go.Proofs.YtnajijaachgipaaDoorW.PrintMore
attribute [local go_sem] max2_int min2_int max_two min_two max_three min_three max_four min_four   -- for this text's walks alone
set_option linter.unusedVariables false
set_option linter.unusedSimpArgs false
/-! ### fastjson_parseRawNumber: function 75 -/
mutual
def fastjson_parseRawNumber.l0 : Nat → ByteArray → Int → Int → Option (ByteArray × ByteArray × Option Int)
 | 0, _, _, _ => none
 | k + 1, x0, x10, x11 => if x11 < x10 then (if 0 ≤ x11 then (if x11 < (x0.size : Int) then (if (bt x0 x11) ≥ 48 then (if (bt x0 x11) ≤ 57 then (fastjson_parseRawNumber.j1 k x0 x11 x10 x11 true) else (if (bt x0 x11) = 46 then (fastjson_parseRawNumber.j1 k x0 x11 x10 x11 true) else (if (bt x0 x11) = 45 then (fastjson_parseRawNumber.j1 k x0 x11 x10 x11 true) else (if (bt x0 x11) = 101 then (fastjson_parseRawNumber.j1 k x0 x11 x10 x11 true) else (if (bt x0 x11) = 69 then (fastjson_parseRawNumber.j1 k x0 x11 x10 x11 true) else (fastjson_parseRawNumber.j1 k x0 x11 x10 x11 ((bt x0 x11) == 43))))))) else (if (bt x0 x11) = 46 then (fastjson_parseRawNumber.j1 k x0 x11 x10 x11 true) else (if (bt x0 x11) = 45 then (fastjson_parseRawNumber.j1 k x0 x11 x10 x11 true) else (if (bt x0 x11) = 101 then (fastjson_parseRawNumber.j1 k x0 x11 x10 x11 true) else (if (bt x0 x11) = 69 then (fastjson_parseRawNumber.j1 k x0 x11 x10 x11 true) else (fastjson_parseRawNumber.j1 k x0 x11 x10 x11 ((bt x0 x11) == 43))))))) else (none)) else (none)) else (some (x0, (⟨#[]⟩ : ByteArray), none))
def fastjson_parseRawNumber.j1 : Nat → ByteArray → Int → Int → Int → Bool → Option (ByteArray × ByteArray × Option Int)
 | 0, _, _, _, _, _ => none
 | k + 1, x0, x5, x10, x11, x42 => if x42 = true then (fastjson_parseRawNumber.l0 k x0 x10 (wrap64 (x11 + 1))) else (if x5 = 0 then (fastjson_parseRawNumber.j2 k x0 x5 true) else (if x5 = 1 then (if 0 < (x0.size : Int) then (if (bt x0 0) = 45 then (fastjson_parseRawNumber.j2 k x0 x5 true) else (fastjson_parseRawNumber.j2 k x0 x5 ((bt x0 0) == 43))) else (none)) else (fastjson_parseRawNumber.j2 k x0 x5 false)))
def fastjson_parseRawNumber.j2 : Nat → ByteArray → Int → Bool → Option (ByteArray × ByteArray × Option Int)
 | 0, _, _, _ => none
 | k + 1, x0, x5, x58 => if x58 = true then (if 0 ≤ x5 then (if x5 ≤ (x0.size : Int) then (if ((x0.extract (x5 : Int).toNat x0.size).size : Int) ≥ 3 then (if x5 ≤ (wrap64 (x5 + 3)) then (if (wrap64 (x5 + 3)) ≤ (x0.size : Int) then ((fastjson_zzFold.f k (x0.extract (x5 : Int).toNat ((wrap64 (x5 + 3)) : Int).toNat) (⟨#[105, 110, 102]⟩ : ByteArray)).bind fun t172 => (if t172 = true then (if 0 ≤ (wrap64 (x5 + 3)) then (some (x0.extract 0 ((wrap64 (x5 + 3)) : Int).toNat, x0.extract ((wrap64 (x5 + 3)) : Int).toNat x0.size, none)) else (none)) else ((fastjson_zzFold.f k (x0.extract (x5 : Int).toNat ((wrap64 (x5 + 3)) : Int).toNat) (⟨#[110, 97, 110]⟩ : ByteArray)).bind fun t173 => (if t173 = true then (if 0 ≤ (wrap64 (x5 + 3)) then (some (x0.extract 0 ((wrap64 (x5 + 3)) : Int).toNat, x0.extract ((wrap64 (x5 + 3)) : Int).toNat x0.size, none)) else (none)) else ((errors_New.f (⟨#[117, 110, 101, 120, 112, 101, 99, 116, 101, 100, 32, 99, 104, 97, 114]⟩ : ByteArray)).bind fun t174 => (some ((⟨#[]⟩ : ByteArray), x0, t174))))))) else (none)) else (none)) else ((errors_New.f (⟨#[117, 110, 101, 120, 112, 101, 99, 116, 101, 100, 32, 99, 104, 97, 114]⟩ : ByteArray)).bind fun t175 => (some ((⟨#[]⟩ : ByteArray), x0, t175)))) else (none)) else (none)) else (if 0 ≤ x5 then (if x5 ≤ (x0.size : Int) then (some (x0.extract 0 (x5 : Int).toNat, x0.extract (x5 : Int).toNat x0.size, none)) else (none)) else (none))
end
def fastjson_parseRawNumber.f (k : Nat) (a0 : ByteArray) : Option (ByteArray × ByteArray × Option Int) := fastjson_parseRawNumber.l0 k a0 (a0.size : Int) 0
theorem fastjson_parseRawNumber.mono_l : ∀ k, (∀ y0 y1 y2, LeO (fastjson_parseRawNumber.l0 k y0 y1 y2) (fastjson_parseRawNumber.l0 (k + 1) y0 y1 y2)) ∧ (∀ y0 y1 y2 y3 y4, LeO (fastjson_parseRawNumber.j1 k y0 y1 y2 y3 y4) (fastjson_parseRawNumber.j1 (k + 1) y0 y1 y2 y3 y4)) ∧ (∀ y0 y1 y2, LeO (fastjson_parseRawNumber.j2 k y0 y1 y2) (fastjson_parseRawNumber.j2 (k + 1) y0 y1 y2))
 | 0 => ⟨fun _ _ _ r h => by simp [fastjson_parseRawNumber.l0] at h, fun _ _ _ _ _ r h => by simp [fastjson_parseRawNumber.j1] at h, fun _ _ _ r h => by simp [fastjson_parseRawNumber.j2] at h⟩
 | k + 1 => by
  obtain ⟨ih0, ih1, ih2⟩ := fastjson_parseRawNumber.mono_l k
  refine ⟨?_, ?_, ?_⟩
  ·intro y0 y1 y2
   unfold fastjson_parseRawNumber.l0
   repeat' first
   | (with_reducible exact ih0 _ _ _)
   | (with_reducible exact ih1 _ _ _ _ _)
   | (with_reducible exact ih2 _ _ _)
   | (with_reducible exact fastjson_zzFold.mono _ _ _)
   | (with_reducible exact LeO.refl _)
   | (with_reducible exact LeO.none _)
   | (with_reducible refine LeO.ite ?_ ?_)
   | (with_reducible refine LeO.bind ?_ (fun _ => ?_))
   | exact ih0 _ _ _
   | exact ih1 _ _ _ _ _
   | exact ih2 _ _ _
   | exact fastjson_zzFold.mono _ _ _
   | exact LeO.none _
   | refine LeO.ite ?_ ?_
   | refine LeO.bind ?_ (fun _ => ?_)
  ·intro y0 y1 y2 y3 y4
   unfold fastjson_parseRawNumber.j1
   repeat' first
   | (with_reducible exact ih0 _ _ _)
   | (with_reducible exact ih1 _ _ _ _ _)
   | (with_reducible exact ih2 _ _ _)
   | (with_reducible exact fastjson_zzFold.mono _ _ _)
   | (with_reducible exact LeO.refl _)
   | (with_reducible exact LeO.none _)
   | (with_reducible refine LeO.ite ?_ ?_)
   | (with_reducible refine LeO.bind ?_ (fun _ => ?_))
   | exact ih0 _ _ _
   | exact ih1 _ _ _ _ _
   | exact ih2 _ _ _
   | exact fastjson_zzFold.mono _ _ _
   | exact LeO.none _
   | refine LeO.ite ?_ ?_
   | refine LeO.bind ?_ (fun _ => ?_)
  intro y0 y1 y2
  unfold fastjson_parseRawNumber.j2
  repeat' first
  | (with_reducible exact ih0 _ _ _)
  | (with_reducible exact ih1 _ _ _ _ _)
  | (with_reducible exact ih2 _ _ _)
  | (with_reducible exact fastjson_zzFold.mono _ _ _)
  | (with_reducible exact LeO.refl _)
  | (with_reducible exact LeO.none _)
  | (with_reducible refine LeO.ite ?_ ?_)
  | (with_reducible refine LeO.bind ?_ (fun _ => ?_))
  | exact ih0 _ _ _
  | exact ih1 _ _ _ _ _
  | exact ih2 _ _ _
  | exact fastjson_zzFold.mono _ _ _
  | exact LeO.none _
  | refine LeO.ite ?_ ?_
  | refine LeO.bind ?_ (fun _ => ?_)
theorem fastjson_parseRawNumber.mono : ∀ a0 k, LeO (fastjson_parseRawNumber.f k a0) (fastjson_parseRawNumber.f (k + 1) a0) := by
 intro a0 k
 obtain ⟨ih0, ih1, ih2⟩ := fastjson_parseRawNumber.mono_l k
 unfold fastjson_parseRawNumber.f
 repeat' first
   | (with_reducible exact ih0 _ _ _)
   | (with_reducible exact ih1 _ _ _ _ _)
   | (with_reducible exact ih2 _ _ _)
   | (with_reducible exact fastjson_zzFold.mono _ _ _)
   | (with_reducible exact LeO.refl _)
   | (with_reducible exact LeO.none _)
   | (with_reducible refine LeO.ite ?_ ?_)
   | (with_reducible refine LeO.bind ?_ (fun _ => ?_))
   | exact ih0 _ _ _
   | exact ih1 _ _ _ _ _
   | exact ih2 _ _ _
   | exact fastjson_zzFold.mono _ _ _
   | exact LeO.none _
   | refine LeO.ite ?_ ?_
   | refine LeO.bind ?_ (fun _ => ?_)
set_option maxHeartbeats 8000000 in
set_option maxRecDepth 100000 in
theorem fastjson_parseRawNumber.calls (k : Nat) (a0 : ByteArray) (r1 : ByteArray) (r2 : ByteArray) (r3 : Option Int) (w : World) (h : fastjson_parseRawNumber.f k a0 = some (r1, r2, r3)) :
  Calls Tryd.prog 75 #[.string a0] w fun e w' => ∃ (et2_ : Nat) (ep2_ : Value), e = .returned (.tuple #[.string r1, .string r2, errX et2_ ep2_ r3]) ∧ Below w.heap.size w w' := by
 have HB := Aside0.mk (Below.refl w.heap.size w)
 have H : (fastjson_parseRawNumber.l0 k a0 (a0.size : Int) 0) = some (r1, r2, r3) := h
 clear h
 have H' := Aside0.mk H
 clear H
 go_enter Tryd.func75, Tryd.ntmps75
 go_wp2
 repeat (go_quiet (fail); try go_wp2)
 try simp only [Act.put, List.setIfInBounds_toArray, List.set_cons_succ, List.set_cons_zero]
 go_loopg [0, 11] k (fun kq v0 v11 w' => ∃ (x0_1 : ByteArray) (x11_1 : Int), v0 = .string x0_1 ∧ v11 = .int .i64 x11_1 ∧ Aside0 (fastjson_parseRawNumber.l0 kq x0_1 (a0.size : Int) x11_1 = some (r1, r2, r3)) ∧ Aside0 (kq ≤ k) ∧ Aside0 (Below w.heap.size w w'))
 case atStart => exact ⟨(a0), (0), (by first | rfl | (simp; done) | (simp [*]; done)), (by first | rfl | (simp; done) | (simp [*]; done)), H', ⟨Nat.le_refl _⟩, ⟨by repeat (first | (with_reducible first | exact HB.out | apply below_alloc | apply pw_below_drewN | apply below_drew1) | exact HB.out)⟩⟩
 case round =>
  clear H'
  obtain ⟨x0_1, x11_1, rfl, rfl, HA, HK1, HB⟩ := hrel
  cases gk with
  | zero => exact absurd HA.out (by simp [fastjson_parseRawNumber.l0])
  | succ k1 =>
   have H := HA.out
   clear HA
   simp only [fastjson_parseRawNumber.l0] at H
   by_cases c2 : x11_1 < (a0.size : Int)
   ·rw [if_pos c2] at H
    have c2b0 : decide (x11_1 < (a0.size : Int)) = true := decide_eq_true c2
    clear c2
    by_cases c3 : 0 ≤ x11_1
    ·rw [if_pos c3] at H
     have c3b0 : decide (0 ≤ x11_1) = true := decide_eq_true c3
     clear c3
     by_cases c4 : x11_1 < (x0_1.size : Int)
     ·rw [if_pos c4] at H
      have c4b0 : decide (x11_1 < (x0_1.size : Int)) = true := decide_eq_true c4
      clear c4
      have HC6 := Aside0.mk H
      clear H
      have p5 : 0 ≤ (x11_1 : Int) := of_decide_eq_true (by assumption)
      have q5 : x11_1 < (x0_1.size : Int) := of_decide_eq_true (by assumption)
      have hx5 := bt_at x0_1 x11_1
      replace p5 := eq_true p5
      replace q5 := eq_true q5
      go_upto_region 5 with (fail)
      repeat (go_quiet (fail); go_upto_region 5 with (fail))
      go_cut [42] (fun v42 wc => ∃ (kq : Nat) (x42_5 : Bool), v42 = .bool x42_5 ∧ Aside0 (fastjson_parseRawNumber.j1 kq x0_1 x11_1 (a0.size : Int) x11_1 x42_5 = some (r1, r2, r3)) ∧ Aside0 (kq ≤ k1) ∧ Aside0 (Below w.heap.size w wc))
      case first =>
       have H := HC6.out
       clear HC6
       by_cases c7 : (bt x0_1 x11_1) ≥ 48
       ·rw [if_pos c7] at H
        have c7b0 : decide (48 ≤ (bt x0_1 x11_1)) = true := decide_eq_true c7
        clear c7
        (first | rw [c7b0] | (simp only [i64_w, i32_w]; rw [c7b0]) | rw [c7b1] | skip)
        by_cases c8 : (bt x0_1 x11_1) ≤ 57
        ·rw [if_pos c8] at H
         have c8b0 : decide ((bt x0_1 x11_1) ≤ 57) = true := decide_eq_true c8
         clear c8
         have H' := Aside0.mk H
         clear H
         go_wp2
         repeat (go_quiet (fail); try go_wp2)
         go_meet
         case rel => exact ⟨_, (true), (by first | rfl | (simp; done) | (simp [*]; done)), H', ⟨by have := HK1.out; first | omega | exact Nat.le_refl _⟩, ⟨by repeat (first | (with_reducible first | exact HB.out | apply below_alloc | apply pw_below_drewN | apply below_drew1) | exact HB.out)⟩⟩
        rw [if_neg c8] at H
        have c8b0 : decide ((bt x0_1 x11_1) ≤ 57) = false := decide_eq_false c8
        clear c8
        by_cases c9 : (bt x0_1 x11_1) = 46
        ·rw [if_pos c9] at H
         have c9b0 : ((bt x0_1 x11_1) == 46) = true := beq_iff_eq.mpr c9
         have c9b1 : ((bt x0_1 x11_1) != 46) = false := bne_eq_false_iff_eq.mpr c9
         clear c9
         have H' := Aside0.mk H
         clear H
         go_wp2
         repeat (go_quiet (fail); try go_wp2)
         go_meet
         case rel => exact ⟨_, (true), (by first | rfl | (simp; done) | (simp [*]; done)), H', ⟨by have := HK1.out; first | omega | exact Nat.le_refl _⟩, ⟨by repeat (first | (with_reducible first | exact HB.out | apply below_alloc | apply pw_below_drewN | apply below_drew1) | exact HB.out)⟩⟩
        rw [if_neg c9] at H
        have c9b0 : ((bt x0_1 x11_1) == 46) = false := beq_eq_false_iff_ne.mpr c9
        have c9b1 : ((bt x0_1 x11_1) != 46) = true := bne_iff_ne.mpr c9
        by_cases c10 : (bt x0_1 x11_1) = 45
        ·rw [if_pos c10] at H
         have c10b0 : ((bt x0_1 x11_1) == 45) = true := beq_iff_eq.mpr c10
         have c10b1 : ((bt x0_1 x11_1) != 45) = false := bne_eq_false_iff_eq.mpr c10
         clear c10
         have H' := Aside0.mk H
         clear H
         go_wp2
         repeat (go_quiet (fail); try go_wp2)
         go_meet
         case rel => exact ⟨_, (true), (by first | rfl | (simp; done) | (simp [*]; done)), H', ⟨by have := HK1.out; first | omega | exact Nat.le_refl _⟩, ⟨by repeat (first | (with_reducible first | exact HB.out | apply below_alloc | apply pw_below_drewN | apply below_drew1) | exact HB.out)⟩⟩
        rw [if_neg c10] at H
        have c10b0 : ((bt x0_1 x11_1) == 45) = false := beq_eq_false_iff_ne.mpr c10
        have c10b1 : ((bt x0_1 x11_1) != 45) = true := bne_iff_ne.mpr c10
        by_cases c11 : (bt x0_1 x11_1) = 101
        ·rw [if_pos c11] at H
         have c11b0 : ((bt x0_1 x11_1) == 101) = true := beq_iff_eq.mpr c11
         have c11b1 : ((bt x0_1 x11_1) != 101) = false := bne_eq_false_iff_eq.mpr c11
         clear c11
         have H' := Aside0.mk H
         clear H
         go_wp2
         repeat (go_quiet (fail); try go_wp2)
         go_meet
         case rel => exact ⟨_, (true), (by first | rfl | (simp; done) | (simp [*]; done)), H', ⟨by have := HK1.out; first | omega | exact Nat.le_refl _⟩, ⟨by repeat (first | (with_reducible first | exact HB.out | apply below_alloc | apply pw_below_drewN | apply below_drew1) | exact HB.out)⟩⟩
        rw [if_neg c11] at H
        have c11b0 : ((bt x0_1 x11_1) == 101) = false := beq_eq_false_iff_ne.mpr c11
        have c11b1 : ((bt x0_1 x11_1) != 101) = true := bne_iff_ne.mpr c11
        by_cases c12 : (bt x0_1 x11_1) = 69
        ·rw [if_pos c12] at H
         have c12b0 : ((bt x0_1 x11_1) == 69) = true := beq_iff_eq.mpr c12
         have c12b1 : ((bt x0_1 x11_1) != 69) = false := bne_eq_false_iff_eq.mpr c12
         clear c12
         have H' := Aside0.mk H
         clear H
         go_wp2
         repeat (go_quiet (fail); try go_wp2)
         go_meet
         case rel => exact ⟨_, (true), (by first | rfl | (simp; done) | (simp [*]; done)), H', ⟨by have := HK1.out; first | omega | exact Nat.le_refl _⟩, ⟨by repeat (first | (with_reducible first | exact HB.out | apply below_alloc | apply pw_below_drewN | apply below_drew1) | exact HB.out)⟩⟩
        rw [if_neg c12] at H
        have c12b0 : ((bt x0_1 x11_1) == 69) = false := beq_eq_false_iff_ne.mpr c12
        have c12b1 : ((bt x0_1 x11_1) != 69) = true := bne_iff_ne.mpr c12
        have H' := Aside0.mk H
        clear H
        go_wp2
        repeat (go_quiet (fail); try go_wp2)
        go_meet
        case rel => exact ⟨_, (((bt x0_1 x11_1) == 43)), (by first | rfl | (simp; done) | (simp [*]; done)), H', ⟨by have := HK1.out; first | omega | exact Nat.le_refl _⟩, ⟨by repeat (first | (with_reducible first | exact HB.out | apply below_alloc | apply pw_below_drewN | apply below_drew1) | exact HB.out)⟩⟩
       rw [if_neg c7] at H
       have c7b0 : decide (48 ≤ (bt x0_1 x11_1)) = false := decide_eq_false c7
       clear c7
       (first | rw [c7b0] | (simp only [i64_w, i32_w]; rw [c7b0]) | rw [c7b1] | skip)
       by_cases c13 : (bt x0_1 x11_1) = 46
       ·rw [if_pos c13] at H
        have c13b0 : ((bt x0_1 x11_1) == 46) = true := beq_iff_eq.mpr c13
        have c13b1 : ((bt x0_1 x11_1) != 46) = false := bne_eq_false_iff_eq.mpr c13
        clear c13
        have H' := Aside0.mk H
        clear H
        go_wp2
        repeat (go_quiet (fail); try go_wp2)
        go_meet
        case rel => exact ⟨_, (true), (by first | rfl | (simp; done) | (simp [*]; done)), H', ⟨by have := HK1.out; first | omega | exact Nat.le_refl _⟩, ⟨by repeat (first | (with_reducible first | exact HB.out | apply below_alloc | apply pw_below_drewN | apply below_drew1) | exact HB.out)⟩⟩
       rw [if_neg c13] at H
       have c13b0 : ((bt x0_1 x11_1) == 46) = false := beq_eq_false_iff_ne.mpr c13
       have c13b1 : ((bt x0_1 x11_1) != 46) = true := bne_iff_ne.mpr c13
       by_cases c14 : (bt x0_1 x11_1) = 45
       ·rw [if_pos c14] at H
        have c14b0 : ((bt x0_1 x11_1) == 45) = true := beq_iff_eq.mpr c14
        have c14b1 : ((bt x0_1 x11_1) != 45) = false := bne_eq_false_iff_eq.mpr c14
        clear c14
        have H' := Aside0.mk H
        clear H
        go_wp2
        repeat (go_quiet (fail); try go_wp2)
        go_meet
        case rel => exact ⟨_, (true), (by first | rfl | (simp; done) | (simp [*]; done)), H', ⟨by have := HK1.out; first | omega | exact Nat.le_refl _⟩, ⟨by repeat (first | (with_reducible first | exact HB.out | apply below_alloc | apply pw_below_drewN | apply below_drew1) | exact HB.out)⟩⟩
       rw [if_neg c14] at H
       have c14b0 : ((bt x0_1 x11_1) == 45) = false := beq_eq_false_iff_ne.mpr c14
       have c14b1 : ((bt x0_1 x11_1) != 45) = true := bne_iff_ne.mpr c14
       by_cases c15 : (bt x0_1 x11_1) = 101
       ·rw [if_pos c15] at H
        have c15b0 : ((bt x0_1 x11_1) == 101) = true := beq_iff_eq.mpr c15
        have c15b1 : ((bt x0_1 x11_1) != 101) = false := bne_eq_false_iff_eq.mpr c15
        clear c15
        have H' := Aside0.mk H
        clear H
        go_wp2
        repeat (go_quiet (fail); try go_wp2)
        go_meet
        case rel => exact ⟨_, (true), (by first | rfl | (simp; done) | (simp [*]; done)), H', ⟨by have := HK1.out; first | omega | exact Nat.le_refl _⟩, ⟨by repeat (first | (with_reducible first | exact HB.out | apply below_alloc | apply pw_below_drewN | apply below_drew1) | exact HB.out)⟩⟩
       rw [if_neg c15] at H
       have c15b0 : ((bt x0_1 x11_1) == 101) = false := beq_eq_false_iff_ne.mpr c15
       have c15b1 : ((bt x0_1 x11_1) != 101) = true := bne_iff_ne.mpr c15
       by_cases c16 : (bt x0_1 x11_1) = 69
       ·rw [if_pos c16] at H
        have c16b0 : ((bt x0_1 x11_1) == 69) = true := beq_iff_eq.mpr c16
        have c16b1 : ((bt x0_1 x11_1) != 69) = false := bne_eq_false_iff_eq.mpr c16
        clear c16
        have H' := Aside0.mk H
        clear H
        go_wp2
        repeat (go_quiet (fail); try go_wp2)
        go_meet
        case rel => exact ⟨_, (true), (by first | rfl | (simp; done) | (simp [*]; done)), H', ⟨by have := HK1.out; first | omega | exact Nat.le_refl _⟩, ⟨by repeat (first | (with_reducible first | exact HB.out | apply below_alloc | apply pw_below_drewN | apply below_drew1) | exact HB.out)⟩⟩
       rw [if_neg c16] at H
       have c16b0 : ((bt x0_1 x11_1) == 69) = false := beq_eq_false_iff_ne.mpr c16
       have c16b1 : ((bt x0_1 x11_1) != 69) = true := bne_iff_ne.mpr c16
       have H' := Aside0.mk H
       clear H
       go_wp2
       repeat (go_quiet (fail); try go_wp2)
       go_meet
       case rel => exact ⟨_, (((bt x0_1 x11_1) == 43)), (by first | rfl | (simp; done) | (simp [*]; done)), H', ⟨by have := HK1.out; first | omega | exact Nat.le_refl _⟩, ⟨by repeat (first | (with_reducible first | exact HB.out | apply below_alloc | apply pw_below_drewN | apply below_drew1) | exact HB.out)⟩⟩
      case rest =>
       clear HC6
       try clear c1
       try clear c2
       try clear c2b0
       try clear p2
       try clear c3
       try clear c3b0
       try clear c4
       try clear c4b0
       try clear p5
       try clear q5
       try clear hx5
       try clear c7
       try clear c7b0
       try clear c7b1
       try clear c8
       try clear c8b0
       try clear c9
       try clear c9b0
       try clear c9b1
       try clear c10
       try clear c10b0
       try clear c10b1
       try clear c11
       try clear c11b0
       try clear c11b1
       try clear c12
       try clear c12b0
       try clear c12b1
       try clear c13
       try clear c13b0
       try clear c13b1
       try clear c14
       try clear c14b0
       try clear c14b1
       try clear c15
       try clear c15b0
       try clear c15b1
       try clear c16
       try clear c16b0
       try clear c16b1
       try clear p5
       try clear q5
       obtain ⟨kq, x42_5, rfl, HA, HJ5, HB⟩ := hcut
       cases kq with
       | zero => exact absurd HA.out (by simp [fastjson_parseRawNumber.j1])
       | succ kj5 =>
        have H := HA.out
        clear HA
        simp only [fastjson_parseRawNumber.j1] at H
        by_cases c17 : x42_5 = true
        ·subst c17
         have H1 : (fastjson_parseRawNumber.l0 kj5 x0_1 (a0.size : Int) (wrap64 (x11_1 + 1))) = some (r1, r2, r3) := by rw [if_pos rfl] at H; exact H
         clear H
         have H := H1
         clear H1
         have H' := Aside0.mk H
         clear H
         go_wp2
         repeat (go_quiet (fail); try go_wp2)
         go_roundg kj5
         case measure => have := HK1.out; have := HJ5.out; omega
         case rel => exact ⟨(x0_1), (wrap64 (x11_1 + 1)), (by first | rfl | (simp; done) | (simp [*]; done)), (by first | rfl | (simp; done) | (simp [*]; done)), H', ⟨by have := HK1.out; have := HJ5.out; omega⟩, ⟨by repeat (first | (with_reducible first | exact HB.out | apply below_alloc | apply pw_below_drewN | apply below_drew1) | exact HB.out)⟩⟩
        replace c17 := Bool.eq_false_iff.mpr c17
        subst c17
        have H1 : (if x11_1 = 0 then (fastjson_parseRawNumber.j2 kj5 x0_1 x11_1 true) else (if x11_1 = 1 then (if 0 < (x0_1.size : Int) then (if (bt x0_1 0) = 45 then (fastjson_parseRawNumber.j2 kj5 x0_1 x11_1 true) else (fastjson_parseRawNumber.j2 kj5 x0_1 x11_1 ((bt x0_1 0) == 43))) else (none)) else (fastjson_parseRawNumber.j2 kj5 x0_1 x11_1 false))) = some (r1, r2, r3) := by rw [if_neg (show ¬ (false = true) by decide)] at H; exact H
        clear H
        have H := H1
        clear H1
        have HC18 := Aside0.mk H
        clear H
        go_upto_region 6 with (fail)
        repeat (go_quiet (fail); go_upto_region 6 with (fail))
        go_cut [58] (fun v58 wc => ∃ (kq : Nat) (x58_17 : Bool), v58 = .bool x58_17 ∧ Aside0 (fastjson_parseRawNumber.j2 kq x0_1 x11_1 x58_17 = some (r1, r2, r3)) ∧ Aside0 (kq ≤ kj5) ∧ Aside0 (Below w.heap.size w wc))
        case first =>
         have H := HC18.out
         clear HC18
         by_cases c19 : x11_1 = 0
         ·rw [if_pos c19] at H
          have c19b0 : (x11_1 == 0) = true := beq_iff_eq.mpr c19
          have c19b1 : (x11_1 != 0) = false := bne_eq_false_iff_eq.mpr c19
          clear c19
          (first | rw [c19b0] | (simp only [i64_w, i32_w]; rw [c19b0]) | rw [c19b1] | skip)
          have H' := Aside0.mk H
          clear H
          go_wp2
          repeat (go_quiet (fail); try go_wp2)
          go_meet
          case rel => exact ⟨_, (true), (by first | rfl | (simp; done) | (simp [*]; done)), H', ⟨by have := HK1.out; have := HJ5.out; first | omega | exact Nat.le_refl _⟩, ⟨by repeat (first | (with_reducible first | exact HB.out | apply below_alloc | apply pw_below_drewN | apply below_drew1) | exact HB.out)⟩⟩
         rw [if_neg c19] at H
         have c19b0 : (x11_1 == 0) = false := beq_eq_false_iff_ne.mpr c19
         have c19b1 : (x11_1 != 0) = true := bne_iff_ne.mpr c19
         (first | rw [c19b0] | (simp only [i64_w, i32_w]; rw [c19b0]) | rw [c19b1] | skip)
         by_cases c20 : x11_1 = 1
         ·rw [if_pos c20] at H
          have c20b0 : (x11_1 == 1) = true := beq_iff_eq.mpr c20
          have c20b1 : (x11_1 != 1) = false := bne_eq_false_iff_eq.mpr c20
          clear c20
          by_cases c21 : 0 < (x0_1.size : Int)
          ·rw [if_pos c21] at H
           have c21b0 : decide (0 < (x0_1.size : Int)) = true := decide_eq_true c21
           have c21b1 : decide (0 < x0_1.size) = true := decide_eq_true (by omega)
           clear c21
           by_cases c23 : (bt x0_1 0) = 45
           ·rw [if_pos c23] at H
            have c23b0 : ((bt x0_1 0) == 45) = true := beq_iff_eq.mpr c23
            have c23b1 : ((bt x0_1 0) != 45) = false := bne_eq_false_iff_eq.mpr c23
            clear c23
            have H' := Aside0.mk H
            clear H
            have p22 : 0 ≤ (0 : Int) := (by omega)
            have q22 : 0 < x0_1.size := (by have : (0 : Int) < (x0_1.size : Int) := of_decide_eq_true (by assumption); omega)
            have hx22 : ∀ h : 0 < x0_1.size, ((x0_1[0]'h).toNat : Int) = bt x0_1 0 := bt_at x0_1 0
            clear p22
            have qi22 : (0 < (x0_1.size : Int)) = True := eq_true (of_decide_eq_true (by assumption))
            replace q22 := eq_true q22
            go_wp2
            repeat (go_quiet (fail); try go_wp2)
            go_meet
            case rel => exact ⟨_, (true), (by first | rfl | (simp; done) | (simp [*]; done)), H', ⟨by have := HK1.out; have := HJ5.out; first | omega | exact Nat.le_refl _⟩, ⟨by repeat (first | (with_reducible first | exact HB.out | apply below_alloc | apply pw_below_drewN | apply below_drew1) | exact HB.out)⟩⟩
           rw [if_neg c23] at H
           have c23b0 : ((bt x0_1 0) == 45) = false := beq_eq_false_iff_ne.mpr c23
           have c23b1 : ((bt x0_1 0) != 45) = true := bne_iff_ne.mpr c23
           have H' := Aside0.mk H
           clear H
           have p22 : 0 ≤ (0 : Int) := (by omega)
           have q22 : 0 < x0_1.size := (by have : (0 : Int) < (x0_1.size : Int) := of_decide_eq_true (by assumption); omega)
           have hx22 : ∀ h : 0 < x0_1.size, ((x0_1[0]'h).toNat : Int) = bt x0_1 0 := bt_at x0_1 0
           clear p22
           have qi22 : (0 < (x0_1.size : Int)) = True := eq_true (of_decide_eq_true (by assumption))
           replace q22 := eq_true q22
           have p24 : 0 ≤ (0 : Int) := (by omega)
           have q24 : 0 < x0_1.size := (by have : (0 : Int) < (x0_1.size : Int) := of_decide_eq_true (by assumption); omega)
           have hx24 : ∀ h : 0 < x0_1.size, ((x0_1[0]'h).toNat : Int) = bt x0_1 0 := bt_at x0_1 0
           clear p24
           have qi24 : (0 < (x0_1.size : Int)) = True := eq_true (of_decide_eq_true (by assumption))
           replace q24 := eq_true q24
           go_wp2
           repeat (go_quiet (fail); try go_wp2)
           go_meet
           case rel => exact ⟨_, (((bt x0_1 0) == 43)), (by first | rfl | (simp; done) | (simp [*]; done)), H', ⟨by have := HK1.out; have := HJ5.out; first | omega | exact Nat.le_refl _⟩, ⟨by repeat (first | (with_reducible first | exact HB.out | apply below_alloc | apply pw_below_drewN | apply below_drew1) | exact HB.out)⟩⟩
          rw [if_neg c21] at H
          exact absurd H (by simp)
         rw [if_neg c20] at H
         have c20b0 : (x11_1 == 1) = false := beq_eq_false_iff_ne.mpr c20
         have c20b1 : (x11_1 != 1) = true := bne_iff_ne.mpr c20
         have H' := Aside0.mk H
         clear H
         go_wp2
         repeat (go_quiet (fail); try go_wp2)
         go_meet
         case rel => exact ⟨_, (false), (by first | rfl | (simp; done) | (simp [*]; done)), H', ⟨by have := HK1.out; have := HJ5.out; first | omega | exact Nat.le_refl _⟩, ⟨by repeat (first | (with_reducible first | exact HB.out | apply below_alloc | apply pw_below_drewN | apply below_drew1) | exact HB.out)⟩⟩
        case rest =>
         clear HC18
         try clear c1
         try clear c2
         try clear c2b0
         try clear p2
         try clear q2
         try clear hx2
         try clear qi2
         try clear c3
         try clear c3b0
         try clear c4
         try clear c4b0
         try clear p5
         try clear q5
         try clear hx5
         try clear p6
         try clear c7
         try clear c7b0
         try clear c7b1
         try clear c8
         try clear c8b0
         try clear c9
         try clear c9b0
         try clear c9b1
         try clear c10
         try clear c10b0
         try clear c10b1
         try clear c11
         try clear c11b0
         try clear c11b1
         try clear c12
         try clear c12b0
         try clear c12b1
         try clear c13
         try clear c13b0
         try clear c13b1
         try clear c14
         try clear c14b0
         try clear c14b1
         try clear c15
         try clear c15b0
         try clear c15b1
         try clear c16
         try clear c16b0
         try clear c16b1
         try clear c17
         try clear c19
         try clear c19b0
         try clear c19b1
         try clear c20
         try clear c20b0
         try clear c20b1
         try clear c21
         try clear c21b0
         try clear c21b1
         try clear p22
         try clear q22
         try clear hx22
         try clear qi22
         try clear c23
         try clear c23b0
         try clear c23b1
         try clear p24
         try clear q24
         try clear hx24
         try clear qi24
         try clear p2
         try clear p22
         try clear p24
         try clear p5
         try clear q22
         try clear q24
         try clear q5
         obtain ⟨kq, x58_17, rfl, HA, HJ17, HB⟩ := hcut
         cases kq with
         | zero => exact absurd HA.out (by simp [fastjson_parseRawNumber.j2])
         | succ kj17 =>
          have H := HA.out
          clear HA
          simp only [fastjson_parseRawNumber.j2] at H
          by_cases c25 : x58_17 = true
          ·subst c25
           have H1 : (if 0 ≤ x11_1 then (if x11_1 ≤ (x0_1.size : Int) then (if ((x0_1.extract (x11_1 : Int).toNat x0_1.size).size : Int) ≥ 3 then (if x11_1 ≤ (wrap64 (x11_1 + 3)) then (if (wrap64 (x11_1 + 3)) ≤ (x0_1.size : Int) then ((fastjson_zzFold.f kj17 (x0_1.extract (x11_1 : Int).toNat ((wrap64 (x11_1 + 3)) : Int).toNat) (⟨#[105, 110, 102]⟩ : ByteArray)).bind fun t172 => (if t172 = true then (if 0 ≤ (wrap64 (x11_1 + 3)) then (some (x0_1.extract 0 ((wrap64 (x11_1 + 3)) : Int).toNat, x0_1.extract ((wrap64 (x11_1 + 3)) : Int).toNat x0_1.size, none)) else (none)) else ((fastjson_zzFold.f kj17 (x0_1.extract (x11_1 : Int).toNat ((wrap64 (x11_1 + 3)) : Int).toNat) (⟨#[110, 97, 110]⟩ : ByteArray)).bind fun t173 => (if t173 = true then (if 0 ≤ (wrap64 (x11_1 + 3)) then (some (x0_1.extract 0 ((wrap64 (x11_1 + 3)) : Int).toNat, x0_1.extract ((wrap64 (x11_1 + 3)) : Int).toNat x0_1.size, none)) else (none)) else ((errors_New.f (⟨#[117, 110, 101, 120, 112, 101, 99, 116, 101, 100, 32, 99, 104, 97, 114]⟩ : ByteArray)).bind fun t174 => (some ((⟨#[]⟩ : ByteArray), x0_1, t174))))))) else (none)) else (none)) else ((errors_New.f (⟨#[117, 110, 101, 120, 112, 101, 99, 116, 101, 100, 32, 99, 104, 97, 114]⟩ : ByteArray)).bind fun t175 => (some ((⟨#[]⟩ : ByteArray), x0_1, t175)))) else (none)) else (none)) = some (r1, r2, r3) := by rw [if_pos rfl] at H; exact H
           clear H
           have H := H1
           clear H1
           by_cases c26 : 0 ≤ x11_1
           ·rw [if_pos c26] at H
            have c26b0 := eq_true c26
            have c26b1 : decide (0 ≤ x11_1) = true := decide_eq_true c26
            clear c26
            by_cases c27 : x11_1 ≤ (x0_1.size : Int)
            ·rw [if_pos c27] at H
             have c27b0 := eq_true c27
             have c27b1 : decide (x11_1 ≤ (x0_1.size : Int)) = true := decide_eq_true c27
             clear c27
             obtain ⟨js28, hjs28⟩ : ∃ z_ : ByteArray, (x0_1.extract (x11_1 : Int).toNat x0_1.size) = z_ := ⟨_, rfl⟩
             replace H : (if (js28.size : Int) ≥ 3 then (if x11_1 ≤ (wrap64 (x11_1 + 3)) then (if (wrap64 (x11_1 + 3)) ≤ (x0_1.size : Int) then ((fastjson_zzFold.f kj17 (x0_1.extract (x11_1 : Int).toNat ((wrap64 (x11_1 + 3)) : Int).toNat) (⟨#[105, 110, 102]⟩ : ByteArray)).bind fun t172 => (if t172 = true then (if 0 ≤ (wrap64 (x11_1 + 3)) then (some (x0_1.extract 0 ((wrap64 (x11_1 + 3)) : Int).toNat, x0_1.extract ((wrap64 (x11_1 + 3)) : Int).toNat x0_1.size, none)) else (none)) else ((fastjson_zzFold.f kj17 (x0_1.extract (x11_1 : Int).toNat ((wrap64 (x11_1 + 3)) : Int).toNat) (⟨#[110, 97, 110]⟩ : ByteArray)).bind fun t173 => (if t173 = true then (if 0 ≤ (wrap64 (x11_1 + 3)) then (some (x0_1.extract 0 ((wrap64 (x11_1 + 3)) : Int).toNat, x0_1.extract ((wrap64 (x11_1 + 3)) : Int).toNat x0_1.size, none)) else (none)) else ((errors_New.f (⟨#[117, 110, 101, 120, 112, 101, 99, 116, 101, 100, 32, 99, 104, 97, 114]⟩ : ByteArray)).bind fun t174 => (some ((⟨#[]⟩ : ByteArray), x0_1, t174))))))) else (none)) else (none)) else ((errors_New.f (⟨#[117, 110, 101, 120, 112, 101, 99, 116, 101, 100, 32, 99, 104, 97, 114]⟩ : ByteArray)).bind fun t175 => (some ((⟨#[]⟩ : ByteArray), x0_1, t175)))) = some (r1, r2, r3) := by first | (rw [hjs28] at H; exact H) | (simp only [hjs28] at H ⊢; exact H)
             by_cases c29 : (js28.size : Int) ≥ 3
             ·rw [if_pos c29] at H
              have c29b0 : decide (3 ≤ (js28.size : Int)) = true := decide_eq_true c29
              have c29b1 : decide (3 ≤ js28.size) = true := decide_eq_true (by omega)
              clear c29
              have c30b0 := eq_true (of_decide_eq_true (by assumption) : 0 ≤ x11_1)
              by_cases c31 : x11_1 ≤ (wrap64 (x11_1 + 3))
              ·rw [if_pos c31] at H
               have c31b0 := eq_true c31
               have c31b1 : decide (x11_1 ≤ (wrap64 (x11_1 + 3))) = true := decide_eq_true c31
               by_cases c32 : (wrap64 (x11_1 + 3)) ≤ (x0_1.size : Int)
               ·rw [if_pos c32] at H
                have c32b0 := eq_true c32
                have c32b1 : decide ((wrap64 (x11_1 + 3)) ≤ (x0_1.size : Int)) = true := decide_eq_true c32
                obtain ⟨js33, hjs33⟩ : ∃ z_ : ByteArray, (x0_1.extract (x11_1 : Int).toNat ((wrap64 (x11_1 + 3)) : Int).toNat) = z_ := ⟨_, rfl⟩
                replace H : ((fastjson_zzFold.f kj17 js33 (⟨#[105, 110, 102]⟩ : ByteArray)).bind fun t172 => (if t172 = true then (if 0 ≤ (wrap64 (x11_1 + 3)) then (some (x0_1.extract 0 ((wrap64 (x11_1 + 3)) : Int).toNat, x0_1.extract ((wrap64 (x11_1 + 3)) : Int).toNat x0_1.size, none)) else (none)) else ((fastjson_zzFold.f kj17 js33 (⟨#[110, 97, 110]⟩ : ByteArray)).bind fun t173 => (if t173 = true then (if 0 ≤ (wrap64 (x11_1 + 3)) then (some (x0_1.extract 0 ((wrap64 (x11_1 + 3)) : Int).toNat, x0_1.extract ((wrap64 (x11_1 + 3)) : Int).toNat x0_1.size, none)) else (none)) else ((errors_New.f (⟨#[117, 110, 101, 120, 112, 101, 99, 116, 101, 100, 32, 99, 104, 97, 114]⟩ : ByteArray)).bind fun t174 => (some ((⟨#[]⟩ : ByteArray), x0_1, t174))))))) = some (r1, r2, r3) := by first | (rw [hjs33] at H; exact H) | (simp only [hjs33] at H ⊢; exact H)
                replace H := Option.bind_eq_some_iff.mp H
                obtain ⟨t172, A340, H⟩ := H
                replace H : (if t172 = true then (if 0 ≤ (wrap64 (x11_1 + 3)) then (some (x0_1.extract 0 ((wrap64 (x11_1 + 3)) : Int).toNat, x0_1.extract ((wrap64 (x11_1 + 3)) : Int).toNat x0_1.size, none)) else (none)) else ((fastjson_zzFold.f kj17 js33 (⟨#[110, 97, 110]⟩ : ByteArray)).bind fun t173 => (if t173 = true then (if 0 ≤ (wrap64 (x11_1 + 3)) then (some (x0_1.extract 0 ((wrap64 (x11_1 + 3)) : Int).toNat, x0_1.extract ((wrap64 (x11_1 + 3)) : Int).toNat x0_1.size, none)) else (none)) else ((errors_New.f (⟨#[117, 110, 101, 120, 112, 101, 99, 116, 101, 100, 32, 99, 104, 97, 114]⟩ : ByteArray)).bind fun t174 => (some ((⟨#[]⟩ : ByteArray), x0_1, t174)))))) = some (r1, r2, r3) := H
                have A34 := Aside0.mk A340
                clear A340
                by_cases c35 : t172 = true
                ·subst c35
                 have H1 : (if 0 ≤ (wrap64 (x11_1 + 3)) then (some (x0_1.extract 0 ((wrap64 (x11_1 + 3)) : Int).toNat, x0_1.extract ((wrap64 (x11_1 + 3)) : Int).toNat x0_1.size, none)) else (none)) = some (r1, r2, r3) := by rw [if_pos rfl] at H; exact H
                 clear H
                 have H := H1
                 clear H1
                 obtain ⟨ji36, hji36⟩ : ∃ j_ : Int, (wrap64 (x11_1 + 3)) = j_ := ⟨_, rfl⟩
                 replace H : (if 0 ≤ (ji36) then (some (x0_1.extract 0 ((ji36) : Int).toNat, x0_1.extract ((ji36) : Int).toNat x0_1.size, none)) else (none)) = some (r1, r2, r3) := by first | (rw [hji36] at H; exact H) | (simp only [hji36] at H ⊢; exact H)
                 (try rw [hji36] at c31b0)
                 (try rw [hji36] at c31b1)
                 (try rw [hji36] at c31)
                 (try rw [hji36] at c32b0)
                 (try rw [hji36] at c32b1)
                 (try rw [hji36] at c32)
                 (try rw [hji36] at hjs28)
                 (try rw [hji36] at hjs33)
                 (try rw [hji36] at A34)
                 have hji36w : (IntKind.i64.wrap (x11_1 + 3)) = ji36 := (i64_w _).trans hji36
                 by_cases c37 : 0 ≤ (ji36)
                 ·rw [if_pos c37] at H
                  have c37b0 := eq_true c37
                  have c37b1 : decide (0 ≤ (ji36)) = true := decide_eq_true c37
                  clear c37
                  have c38b0 := eq_true (of_decide_eq_true (by assumption) : (ji36) ≤ (x0_1.size : Int))
                  have c39b0 := eq_true (of_decide_eq_true (by assumption) : 0 ≤ (ji36))
                  have c40b0 := eq_true (of_decide_eq_true (by assumption) : (ji36) ≤ (x0_1.size : Int))
                  simp only [Option.some.injEq, Prod.mk.injEq] at H
                  obtain ⟨rfl, rfl, rfl⟩ := H
                  try have hcs41 := fun W_ : World => run_slice_string_l (P := Tryd.prog) W_ 9 x0_1 Tryd.underlying9 .i64 x11_1 (of_decide_eq_true (by assumption)) (of_decide_eq_true (by assumption))
                  (try simp only [hjs28] at hcs41)
                  try have hcs42 := fun W_ : World => run_slice_string (P := Tryd.prog) W_ 9 x0_1 .i64 .i64 x11_1 (ji36) Tryd.underlying9 (of_decide_eq_true (by assumption)) (of_decide_eq_true (by assumption)) (of_decide_eq_true (by assumption))
                  (try simp only [hjs33] at hcs42)
                  go_wp2_with (first | (go_at_call 74; (with_reducible refine (fastjson_zzFold.calls kj17 js33 (⟨#[105, 110, 102]⟩ : ByteArray) true _ A34.out).mono ?_); rintro e w' ⟨rfl, ⟨nd, rfl⟩⟩; (try first | exact ⟨rfl, _, World.drewN_drewN _ _ _⟩ | exact ⟨rfl, _, Eq.trans (World.drewN_drewN _ _ _) (congrArg (World.drewN _) (Nat.add_assoc _ _ _))⟩); try have hcs43 := fun W_ : World => run_slice_string_h (P := Tryd.prog) W_ 9 x0_1 Tryd.underlying9 .i64 (ji36) (of_decide_eq_true (by assumption)) (of_decide_eq_true (by assumption)); try have hcs44 := fun W_ : World => run_slice_string_l (P := Tryd.prog) W_ 9 x0_1 Tryd.underlying9 .i64 (ji36) (of_decide_eq_true (by assumption)) (of_decide_eq_true (by assumption))))
                  repeat (go_quiet (first | (go_at_call 74; (with_reducible refine (fastjson_zzFold.calls kj17 js33 (⟨#[105, 110, 102]⟩ : ByteArray) true _ A34.out).mono ?_); rintro e w' ⟨rfl, ⟨nd, rfl⟩⟩; (try first | exact ⟨rfl, _, World.drewN_drewN _ _ _⟩ | exact ⟨rfl, _, Eq.trans (World.drewN_drewN _ _ _) (congrArg (World.drewN _) (Nat.add_assoc _ _ _))⟩); try have hcs43 := fun W_ : World => run_slice_string_h (P := Tryd.prog) W_ 9 x0_1 Tryd.underlying9 .i64 (ji36) (of_decide_eq_true (by assumption)) (of_decide_eq_true (by assumption)); try have hcs44 := fun W_ : World => run_slice_string_l (P := Tryd.prog) W_ 9 x0_1 Tryd.underlying9 .i64 (ji36) (of_decide_eq_true (by assumption)) (of_decide_eq_true (by assumption)))); try go_wp2_with (first | (go_at_call 74; (with_reducible refine (fastjson_zzFold.calls kj17 js33 (⟨#[105, 110, 102]⟩ : ByteArray) true _ A34.out).mono ?_); rintro e w' ⟨rfl, ⟨nd, rfl⟩⟩; (try first | exact ⟨rfl, _, World.drewN_drewN _ _ _⟩ | exact ⟨rfl, _, Eq.trans (World.drewN_drewN _ _ _) (congrArg (World.drewN _) (Nat.add_assoc _ _ _))⟩); try have hcs43 := fun W_ : World => run_slice_string_h (P := Tryd.prog) W_ 9 x0_1 Tryd.underlying9 .i64 (ji36) (of_decide_eq_true (by assumption)) (of_decide_eq_true (by assumption)); try have hcs44 := fun W_ : World => run_slice_string_l (P := Tryd.prog) W_ 9 x0_1 Tryd.underlying9 .i64 (ji36) (of_decide_eq_true (by assumption)) (of_decide_eq_true (by assumption)))))
                  go_ret3
                  first | exact ⟨0, .nilIface, by first | rfl | (simp [errW_none, errW_some] <;> rfl) | (simp only [← hji36]; first | rfl | (simp [errW_none, errW_some] <;> rfl)) | (simp [*, errW_none, errW_some] <;> rfl) | (simp [errW_none, errW_some] <;> exact ⟨rfl, rfl⟩) | (simp [*, errW_none, errW_some] <;> exact ⟨rfl, rfl⟩), by repeat (first | (with_reducible first | exact HB.out | apply below_alloc | apply pw_below_drewN | apply below_drew1) | exact HB.out)⟩ | exact ⟨⟨0, .nilIface, by first | rfl | (simp [errW_none, errW_some] <;> rfl) | (simp only [← hji36]; first | rfl | (simp [errW_none, errW_some] <;> rfl)) | (simp [*, errW_none, errW_some] <;> rfl) | (simp [errW_none, errW_some] <;> exact ⟨rfl, rfl⟩) | (simp [*, errW_none, errW_some] <;> exact ⟨rfl, rfl⟩)⟩, by repeat (first | (with_reducible first | exact HB.out | apply below_alloc | apply pw_below_drewN | apply below_drew1) | exact HB.out)⟩
                 rw [if_neg c37] at H
                 exact absurd H (by simp)
                replace c35 := Bool.eq_false_iff.mpr c35
                subst c35
                have H1 : ((fastjson_zzFold.f kj17 js33 (⟨#[110, 97, 110]⟩ : ByteArray)).bind fun t173 => (if t173 = true then (if 0 ≤ (wrap64 (x11_1 + 3)) then (some (x0_1.extract 0 ((wrap64 (x11_1 + 3)) : Int).toNat, x0_1.extract ((wrap64 (x11_1 + 3)) : Int).toNat x0_1.size, none)) else (none)) else ((errors_New.f (⟨#[117, 110, 101, 120, 112, 101, 99, 116, 101, 100, 32, 99, 104, 97, 114]⟩ : ByteArray)).bind fun t174 => (some ((⟨#[]⟩ : ByteArray), x0_1, t174))))) = some (r1, r2, r3) := by rw [if_neg (show ¬ (false = true) by decide)] at H; exact H
                clear H
                have H := H1
                clear H1
                replace H := Option.bind_eq_some_iff.mp H
                obtain ⟨t173, A450, H⟩ := H
                replace H : (if t173 = true then (if 0 ≤ (wrap64 (x11_1 + 3)) then (some (x0_1.extract 0 ((wrap64 (x11_1 + 3)) : Int).toNat, x0_1.extract ((wrap64 (x11_1 + 3)) : Int).toNat x0_1.size, none)) else (none)) else ((errors_New.f (⟨#[117, 110, 101, 120, 112, 101, 99, 116, 101, 100, 32, 99, 104, 97, 114]⟩ : ByteArray)).bind fun t174 => (some ((⟨#[]⟩ : ByteArray), x0_1, t174)))) = some (r1, r2, r3) := H
                have A45 := Aside0.mk A450
                clear A450
                by_cases c46 : t173 = true
                ·subst c46
                 have H1 : (if 0 ≤ (wrap64 (x11_1 + 3)) then (some (x0_1.extract 0 ((wrap64 (x11_1 + 3)) : Int).toNat, x0_1.extract ((wrap64 (x11_1 + 3)) : Int).toNat x0_1.size, none)) else (none)) = some (r1, r2, r3) := by rw [if_pos rfl] at H; exact H
                 clear H
                 have H := H1
                 clear H1
                 obtain ⟨ji47, hji47⟩ : ∃ j_ : Int, (wrap64 (x11_1 + 3)) = j_ := ⟨_, rfl⟩
                 replace H : (if 0 ≤ (ji47) then (some (x0_1.extract 0 ((ji47) : Int).toNat, x0_1.extract ((ji47) : Int).toNat x0_1.size, none)) else (none)) = some (r1, r2, r3) := by first | (rw [hji47] at H; exact H) | (simp only [hji47] at H ⊢; exact H)
                 (try rw [hji47] at c31b0)
                 (try rw [hji47] at c31b1)
                 (try rw [hji47] at c31)
                 (try rw [hji47] at c32b0)
                 (try rw [hji47] at c32b1)
                 (try rw [hji47] at c32)
                 (try rw [hji47] at hjs28)
                 (try rw [hji47] at hjs33)
                 (try rw [hji47] at A34)
                 (try rw [hji47] at A45)
                 have hji47w : (IntKind.i64.wrap (x11_1 + 3)) = ji47 := (i64_w _).trans hji47
                 by_cases c48 : 0 ≤ (ji47)
                 ·rw [if_pos c48] at H
                  have c48b0 := eq_true c48
                  have c48b1 : decide (0 ≤ (ji47)) = true := decide_eq_true c48
                  clear c48
                  have c49b0 := eq_true (of_decide_eq_true (by assumption) : (ji47) ≤ (x0_1.size : Int))
                  have c50b0 := eq_true (of_decide_eq_true (by assumption) : 0 ≤ (ji47))
                  have c51b0 := eq_true (of_decide_eq_true (by assumption) : (ji47) ≤ (x0_1.size : Int))
                  simp only [Option.some.injEq, Prod.mk.injEq] at H
                  obtain ⟨rfl, rfl, rfl⟩ := H
                  try have hcs52 := fun W_ : World => run_slice_string_l (P := Tryd.prog) W_ 9 x0_1 Tryd.underlying9 .i64 x11_1 (of_decide_eq_true (by assumption)) (of_decide_eq_true (by assumption))
                  (try simp only [hjs28] at hcs52)
                  try have hcs53 := fun W_ : World => run_slice_string (P := Tryd.prog) W_ 9 x0_1 .i64 .i64 x11_1 (ji47) Tryd.underlying9 (of_decide_eq_true (by assumption)) (of_decide_eq_true (by assumption)) (of_decide_eq_true (by assumption))
                  (try simp only [hjs33] at hcs53)
                  go_wp2_with (first | (go_at_call 74; (with_reducible refine (fastjson_zzFold.calls kj17 js33 (⟨#[105, 110, 102]⟩ : ByteArray) false _ A34.out).mono ?_); rintro e w' ⟨rfl, ⟨nd, rfl⟩⟩; (try first | exact ⟨rfl, _, World.drewN_drewN _ _ _⟩ | exact ⟨rfl, _, Eq.trans (World.drewN_drewN _ _ _) (congrArg (World.drewN _) (Nat.add_assoc _ _ _))⟩)) | (go_at_call 74; (with_reducible refine (fastjson_zzFold.calls kj17 js33 (⟨#[110, 97, 110]⟩ : ByteArray) true _ A45.out).mono ?_); rintro e w' ⟨rfl, ⟨nd, rfl⟩⟩; (try first | exact ⟨rfl, _, World.drewN_drewN _ _ _⟩ | exact ⟨rfl, _, Eq.trans (World.drewN_drewN _ _ _) (congrArg (World.drewN _) (Nat.add_assoc _ _ _))⟩); try have hcs54 := fun W_ : World => run_slice_string_h (P := Tryd.prog) W_ 9 x0_1 Tryd.underlying9 .i64 (ji47) (of_decide_eq_true (by assumption)) (of_decide_eq_true (by assumption)); try have hcs55 := fun W_ : World => run_slice_string_l (P := Tryd.prog) W_ 9 x0_1 Tryd.underlying9 .i64 (ji47) (of_decide_eq_true (by assumption)) (of_decide_eq_true (by assumption))))
                  repeat (go_quiet (first | (go_at_call 74; (with_reducible refine (fastjson_zzFold.calls kj17 js33 (⟨#[105, 110, 102]⟩ : ByteArray) false _ A34.out).mono ?_); rintro e w' ⟨rfl, ⟨nd, rfl⟩⟩; (try first | exact ⟨rfl, _, World.drewN_drewN _ _ _⟩ | exact ⟨rfl, _, Eq.trans (World.drewN_drewN _ _ _) (congrArg (World.drewN _) (Nat.add_assoc _ _ _))⟩)) | (go_at_call 74; (with_reducible refine (fastjson_zzFold.calls kj17 js33 (⟨#[110, 97, 110]⟩ : ByteArray) true _ A45.out).mono ?_); rintro e w' ⟨rfl, ⟨nd, rfl⟩⟩; (try first | exact ⟨rfl, _, World.drewN_drewN _ _ _⟩ | exact ⟨rfl, _, Eq.trans (World.drewN_drewN _ _ _) (congrArg (World.drewN _) (Nat.add_assoc _ _ _))⟩); try have hcs54 := fun W_ : World => run_slice_string_h (P := Tryd.prog) W_ 9 x0_1 Tryd.underlying9 .i64 (ji47) (of_decide_eq_true (by assumption)) (of_decide_eq_true (by assumption)); try have hcs55 := fun W_ : World => run_slice_string_l (P := Tryd.prog) W_ 9 x0_1 Tryd.underlying9 .i64 (ji47) (of_decide_eq_true (by assumption)) (of_decide_eq_true (by assumption)))); try go_wp2_with (first | (go_at_call 74; (with_reducible refine (fastjson_zzFold.calls kj17 js33 (⟨#[105, 110, 102]⟩ : ByteArray) false _ A34.out).mono ?_); rintro e w' ⟨rfl, ⟨nd, rfl⟩⟩; (try first | exact ⟨rfl, _, World.drewN_drewN _ _ _⟩ | exact ⟨rfl, _, Eq.trans (World.drewN_drewN _ _ _) (congrArg (World.drewN _) (Nat.add_assoc _ _ _))⟩)) | (go_at_call 74; (with_reducible refine (fastjson_zzFold.calls kj17 js33 (⟨#[110, 97, 110]⟩ : ByteArray) true _ A45.out).mono ?_); rintro e w' ⟨rfl, ⟨nd, rfl⟩⟩; (try first | exact ⟨rfl, _, World.drewN_drewN _ _ _⟩ | exact ⟨rfl, _, Eq.trans (World.drewN_drewN _ _ _) (congrArg (World.drewN _) (Nat.add_assoc _ _ _))⟩); try have hcs54 := fun W_ : World => run_slice_string_h (P := Tryd.prog) W_ 9 x0_1 Tryd.underlying9 .i64 (ji47) (of_decide_eq_true (by assumption)) (of_decide_eq_true (by assumption)); try have hcs55 := fun W_ : World => run_slice_string_l (P := Tryd.prog) W_ 9 x0_1 Tryd.underlying9 .i64 (ji47) (of_decide_eq_true (by assumption)) (of_decide_eq_true (by assumption)))))
                  go_ret3
                  first | exact ⟨0, .nilIface, by first | rfl | (simp [errW_none, errW_some] <;> rfl) | (simp only [← hji47]; first | rfl | (simp [errW_none, errW_some] <;> rfl)) | (simp [*, errW_none, errW_some] <;> rfl) | (simp [errW_none, errW_some] <;> exact ⟨rfl, rfl⟩) | (simp [*, errW_none, errW_some] <;> exact ⟨rfl, rfl⟩), by repeat (first | (with_reducible first | exact HB.out | apply below_alloc | apply pw_below_drewN | apply below_drew1) | exact HB.out)⟩ | exact ⟨⟨0, .nilIface, by first | rfl | (simp [errW_none, errW_some] <;> rfl) | (simp only [← hji47]; first | rfl | (simp [errW_none, errW_some] <;> rfl)) | (simp [*, errW_none, errW_some] <;> rfl) | (simp [errW_none, errW_some] <;> exact ⟨rfl, rfl⟩) | (simp [*, errW_none, errW_some] <;> exact ⟨rfl, rfl⟩)⟩, by repeat (first | (with_reducible first | exact HB.out | apply below_alloc | apply pw_below_drewN | apply below_drew1) | exact HB.out)⟩
                 rw [if_neg c48] at H
                 exact absurd H (by simp)
                replace c46 := Bool.eq_false_iff.mpr c46
                subst c46
                have H1 : ((errors_New.f (⟨#[117, 110, 101, 120, 112, 101, 99, 116, 101, 100, 32, 99, 104, 97, 114]⟩ : ByteArray)).bind fun t174 => (some ((⟨#[]⟩ : ByteArray), x0_1, t174))) = some (r1, r2, r3) := by rw [if_neg (show ¬ (false = true) by decide)] at H; exact H
                clear H
                have H := H1
                clear H1
                replace H := Option.bind_eq_some_iff.mp H
                obtain ⟨t174, A560, H⟩ := H
                replace H : (some ((⟨#[]⟩ : ByteArray), x0_1, t174)) = some (r1, r2, r3) := H
                have A56 := Aside0.mk A560
                clear A560
                simp only [Option.some.injEq, Prod.mk.injEq] at H
                obtain ⟨rfl, rfl, rfl⟩ := H
                try have hcs57 := fun W_ : World => run_slice_string_l (P := Tryd.prog) W_ 9 x0_1 Tryd.underlying9 .i64 x11_1 (of_decide_eq_true (by assumption)) (of_decide_eq_true (by assumption))
                (try simp only [hjs28] at hcs57)
                try have hcs58 := fun W_ : World => run_slice_string (P := Tryd.prog) W_ 9 x0_1 .i64 .i64 x11_1 (wrap64 (x11_1 + 3)) Tryd.underlying9 (of_decide_eq_true (by assumption)) (of_decide_eq_true (by assumption)) (of_decide_eq_true (by assumption))
                (try simp only [hjs33] at hcs58)
                go_wp2_with (first | (go_at_call 74; (with_reducible refine (fastjson_zzFold.calls kj17 js33 (⟨#[105, 110, 102]⟩ : ByteArray) false _ A34.out).mono ?_); rintro e w' ⟨rfl, ⟨nd, rfl⟩⟩; (try first | exact ⟨rfl, _, World.drewN_drewN _ _ _⟩ | exact ⟨rfl, _, Eq.trans (World.drewN_drewN _ _ _) (congrArg (World.drewN _) (Nat.add_assoc _ _ _))⟩)) | (go_at_call 74; (with_reducible refine (fastjson_zzFold.calls kj17 js33 (⟨#[110, 97, 110]⟩ : ByteArray) false _ A45.out).mono ?_); rintro e w' ⟨rfl, ⟨nd, rfl⟩⟩; (try first | exact ⟨rfl, _, World.drewN_drewN _ _ _⟩ | exact ⟨rfl, _, Eq.trans (World.drewN_drewN _ _ _) (congrArg (World.drewN _) (Nat.add_assoc _ _ _))⟩)) | (go_at_call 41; (with_reducible refine (errors_New.calls (⟨#[117, 110, 101, 120, 112, 101, 99, 116, 101, 100, 32, 99, 104, 97, 114]⟩ : ByteArray) t174 _ A56.out).mono ?_); rintro e w59 ⟨et_A56_0, ep_A56_0, rfl, hb⟩; have n0_ := Aside0.mk (below_step (by repeat (first | (with_reducible first | exact HB.out | apply below_alloc | apply pw_below_drewN | apply below_drew1) | exact HB.out)) hb); clear HB; have HB := n0_; clear n0_; (try clear hb); (try clear hb2); (try clear hk); (try clear hi); (try simp only [errW_none, errW_some, errX_none, errX_some])))
                repeat (go_quiet (first | (go_at_call 74; (with_reducible refine (fastjson_zzFold.calls kj17 js33 (⟨#[105, 110, 102]⟩ : ByteArray) false _ A34.out).mono ?_); rintro e w' ⟨rfl, ⟨nd, rfl⟩⟩; (try first | exact ⟨rfl, _, World.drewN_drewN _ _ _⟩ | exact ⟨rfl, _, Eq.trans (World.drewN_drewN _ _ _) (congrArg (World.drewN _) (Nat.add_assoc _ _ _))⟩)) | (go_at_call 74; (with_reducible refine (fastjson_zzFold.calls kj17 js33 (⟨#[110, 97, 110]⟩ : ByteArray) false _ A45.out).mono ?_); rintro e w' ⟨rfl, ⟨nd, rfl⟩⟩; (try first | exact ⟨rfl, _, World.drewN_drewN _ _ _⟩ | exact ⟨rfl, _, Eq.trans (World.drewN_drewN _ _ _) (congrArg (World.drewN _) (Nat.add_assoc _ _ _))⟩)) | (go_at_call 41; (with_reducible refine (errors_New.calls (⟨#[117, 110, 101, 120, 112, 101, 99, 116, 101, 100, 32, 99, 104, 97, 114]⟩ : ByteArray) t174 _ A56.out).mono ?_); rintro e w59 ⟨et_A56_0, ep_A56_0, rfl, hb⟩; have n0_ := Aside0.mk (below_step (by repeat (first | (with_reducible first | exact HB.out | apply below_alloc | apply pw_below_drewN | apply below_drew1) | exact HB.out)) hb); clear HB; have HB := n0_; clear n0_; (try clear hb); (try clear hb2); (try clear hk); (try clear hi); (try simp only [errW_none, errW_some, errX_none, errX_some]))); try go_wp2_with (first | (go_at_call 74; (with_reducible refine (fastjson_zzFold.calls kj17 js33 (⟨#[105, 110, 102]⟩ : ByteArray) false _ A34.out).mono ?_); rintro e w' ⟨rfl, ⟨nd, rfl⟩⟩; (try first | exact ⟨rfl, _, World.drewN_drewN _ _ _⟩ | exact ⟨rfl, _, Eq.trans (World.drewN_drewN _ _ _) (congrArg (World.drewN _) (Nat.add_assoc _ _ _))⟩)) | (go_at_call 74; (with_reducible refine (fastjson_zzFold.calls kj17 js33 (⟨#[110, 97, 110]⟩ : ByteArray) false _ A45.out).mono ?_); rintro e w' ⟨rfl, ⟨nd, rfl⟩⟩; (try first | exact ⟨rfl, _, World.drewN_drewN _ _ _⟩ | exact ⟨rfl, _, Eq.trans (World.drewN_drewN _ _ _) (congrArg (World.drewN _) (Nat.add_assoc _ _ _))⟩)) | (go_at_call 41; (with_reducible refine (errors_New.calls (⟨#[117, 110, 101, 120, 112, 101, 99, 116, 101, 100, 32, 99, 104, 97, 114]⟩ : ByteArray) t174 _ A56.out).mono ?_); rintro e w59 ⟨et_A56_0, ep_A56_0, rfl, hb⟩; have n0_ := Aside0.mk (below_step (by repeat (first | (with_reducible first | exact HB.out | apply below_alloc | apply pw_below_drewN | apply below_drew1) | exact HB.out)) hb); clear HB; have HB := n0_; clear n0_; (try clear hb); (try clear hb2); (try clear hk); (try clear hi); (try simp only [errW_none, errW_some, errX_none, errX_some]))))
                go_ret3
                first | exact ⟨et_A56_0, ep_A56_0, by first | rfl | (simp [errW_none, errW_some] <;> rfl) | (simp [*, errW_none, errW_some] <;> rfl) | (simp [errW_none, errW_some] <;> exact ⟨rfl, rfl⟩) | (simp [*, errW_none, errW_some] <;> exact ⟨rfl, rfl⟩), by repeat (first | (with_reducible first | exact HB.out | apply below_alloc | apply pw_below_drewN | apply below_drew1) | exact HB.out)⟩ | exact ⟨⟨et_A56_0, ep_A56_0, by first | rfl | (simp [errW_none, errW_some] <;> rfl) | (simp [*, errW_none, errW_some] <;> rfl) | (simp [errW_none, errW_some] <;> exact ⟨rfl, rfl⟩) | (simp [*, errW_none, errW_some] <;> exact ⟨rfl, rfl⟩)⟩, by repeat (first | (with_reducible first | exact HB.out | apply below_alloc | apply pw_below_drewN | apply below_drew1) | exact HB.out)⟩
               rw [if_neg c32] at H
               exact absurd H (by simp)
              rw [if_neg c31] at H
              exact absurd H (by simp)
             rw [if_neg c29] at H
             have c29b0 : decide (3 ≤ (js28.size : Int)) = false := decide_eq_false c29
             have c29b1 : decide (3 ≤ js28.size) = false := decide_eq_false (by omega)
             clear c29
             replace H := Option.bind_eq_some_iff.mp H
             obtain ⟨t175, A600, H⟩ := H
             replace H : (some ((⟨#[]⟩ : ByteArray), x0_1, t175)) = some (r1, r2, r3) := H
             have A60 := Aside0.mk A600
             clear A600
             simp only [Option.some.injEq, Prod.mk.injEq] at H
             obtain ⟨rfl, rfl, rfl⟩ := H
             try have hcs61 := fun W_ : World => run_slice_string_l (P := Tryd.prog) W_ 9 x0_1 Tryd.underlying9 .i64 x11_1 (of_decide_eq_true (by assumption)) (of_decide_eq_true (by assumption))
             (try simp only [hjs28] at hcs61)
             go_wp2_with (first | (go_at_call 41; (with_reducible refine (errors_New.calls (⟨#[117, 110, 101, 120, 112, 101, 99, 116, 101, 100, 32, 99, 104, 97, 114]⟩ : ByteArray) t175 _ A60.out).mono ?_); rintro e w62 ⟨et_A60_0, ep_A60_0, rfl, hb⟩; have n0_ := Aside0.mk (below_step (by repeat (first | (with_reducible first | exact HB.out | apply below_alloc | apply pw_below_drewN | apply below_drew1) | exact HB.out)) hb); clear HB; have HB := n0_; clear n0_; (try clear hb); (try clear hb2); (try clear hk); (try clear hi); (try simp only [errW_none, errW_some, errX_none, errX_some])))
             repeat (go_quiet (first | (go_at_call 41; (with_reducible refine (errors_New.calls (⟨#[117, 110, 101, 120, 112, 101, 99, 116, 101, 100, 32, 99, 104, 97, 114]⟩ : ByteArray) t175 _ A60.out).mono ?_); rintro e w62 ⟨et_A60_0, ep_A60_0, rfl, hb⟩; have n0_ := Aside0.mk (below_step (by repeat (first | (with_reducible first | exact HB.out | apply below_alloc | apply pw_below_drewN | apply below_drew1) | exact HB.out)) hb); clear HB; have HB := n0_; clear n0_; (try clear hb); (try clear hb2); (try clear hk); (try clear hi); (try simp only [errW_none, errW_some, errX_none, errX_some]))); try go_wp2_with (first | (go_at_call 41; (with_reducible refine (errors_New.calls (⟨#[117, 110, 101, 120, 112, 101, 99, 116, 101, 100, 32, 99, 104, 97, 114]⟩ : ByteArray) t175 _ A60.out).mono ?_); rintro e w62 ⟨et_A60_0, ep_A60_0, rfl, hb⟩; have n0_ := Aside0.mk (below_step (by repeat (first | (with_reducible first | exact HB.out | apply below_alloc | apply pw_below_drewN | apply below_drew1) | exact HB.out)) hb); clear HB; have HB := n0_; clear n0_; (try clear hb); (try clear hb2); (try clear hk); (try clear hi); (try simp only [errW_none, errW_some, errX_none, errX_some]))))
             go_ret3
             first | exact ⟨et_A60_0, ep_A60_0, by first | rfl | (simp [errW_none, errW_some] <;> rfl) | (simp [*, errW_none, errW_some] <;> rfl) | (simp [errW_none, errW_some] <;> exact ⟨rfl, rfl⟩) | (simp [*, errW_none, errW_some] <;> exact ⟨rfl, rfl⟩), by repeat (first | (with_reducible first | exact HB.out | apply below_alloc | apply pw_below_drewN | apply below_drew1) | exact HB.out)⟩ | exact ⟨⟨et_A60_0, ep_A60_0, by first | rfl | (simp [errW_none, errW_some] <;> rfl) | (simp [*, errW_none, errW_some] <;> rfl) | (simp [errW_none, errW_some] <;> exact ⟨rfl, rfl⟩) | (simp [*, errW_none, errW_some] <;> exact ⟨rfl, rfl⟩)⟩, by repeat (first | (with_reducible first | exact HB.out | apply below_alloc | apply pw_below_drewN | apply below_drew1) | exact HB.out)⟩
            rw [if_neg c27] at H
            exact absurd H (by simp)
           rw [if_neg c26] at H
           exact absurd H (by simp)
          replace c25 := Bool.eq_false_iff.mpr c25
          subst c25
          have H1 : (if 0 ≤ x11_1 then (if x11_1 ≤ (x0_1.size : Int) then (some (x0_1.extract 0 (x11_1 : Int).toNat, x0_1.extract (x11_1 : Int).toNat x0_1.size, none)) else (none)) else (none)) = some (r1, r2, r3) := by rw [if_neg (show ¬ (false = true) by decide)] at H; exact H
          clear H
          have H := H1
          clear H1
          by_cases c63 : 0 ≤ x11_1
          ·rw [if_pos c63] at H
           have c63b0 := eq_true c63
           have c63b1 : decide (0 ≤ x11_1) = true := decide_eq_true c63
           clear c63
           by_cases c64 : x11_1 ≤ (x0_1.size : Int)
           ·rw [if_pos c64] at H
            have c64b0 := eq_true c64
            have c64b1 : decide (x11_1 ≤ (x0_1.size : Int)) = true := decide_eq_true c64
            clear c64
            have c65b0 := eq_true (of_decide_eq_true (by assumption) : 0 ≤ x11_1)
            have c66b0 := eq_true (of_decide_eq_true (by assumption) : x11_1 ≤ (x0_1.size : Int))
            simp only [Option.some.injEq, Prod.mk.injEq] at H
            obtain ⟨rfl, rfl, rfl⟩ := H
            try have hcs67 := fun W_ : World => run_slice_string_h (P := Tryd.prog) W_ 9 x0_1 Tryd.underlying9 .i64 x11_1 (of_decide_eq_true (by assumption)) (of_decide_eq_true (by assumption))
            try have hcs68 := fun W_ : World => run_slice_string_l (P := Tryd.prog) W_ 9 x0_1 Tryd.underlying9 .i64 x11_1 (of_decide_eq_true (by assumption)) (of_decide_eq_true (by assumption))
            go_wp2
            repeat (go_quiet (fail); try go_wp2)
            go_ret3
            first | exact ⟨0, .nilIface, by first | rfl | (simp [errW_none, errW_some] <;> rfl) | (simp [*, errW_none, errW_some] <;> rfl) | (simp [errW_none, errW_some] <;> exact ⟨rfl, rfl⟩) | (simp [*, errW_none, errW_some] <;> exact ⟨rfl, rfl⟩), by repeat (first | (with_reducible first | exact HB.out | apply below_alloc | apply pw_below_drewN | apply below_drew1) | exact HB.out)⟩ | exact ⟨⟨0, .nilIface, by first | rfl | (simp [errW_none, errW_some] <;> rfl) | (simp [*, errW_none, errW_some] <;> rfl) | (simp [errW_none, errW_some] <;> exact ⟨rfl, rfl⟩) | (simp [*, errW_none, errW_some] <;> exact ⟨rfl, rfl⟩)⟩, by repeat (first | (with_reducible first | exact HB.out | apply below_alloc | apply pw_below_drewN | apply below_drew1) | exact HB.out)⟩
           rw [if_neg c64] at H
           exact absurd H (by simp)
          rw [if_neg c63] at H
          exact absurd H (by simp)
     rw [if_neg c4] at H
     exact absurd H (by simp)
    rw [if_neg c3] at H
    exact absurd H (by simp)
   rw [if_neg c2] at H
   have c2b0 : decide (x11_1 < (a0.size : Int)) = false := decide_eq_false c2
   clear c2
   simp only [Option.some.injEq, Prod.mk.injEq] at H
   obtain ⟨rfl, rfl, rfl⟩ := H
   go_wp2
   repeat (go_quiet (fail); try go_wp2)
   go_ret3
   first | exact ⟨0, .nilIface, by first | rfl | (simp [errW_none, errW_some] <;> rfl) | (simp [*, errW_none, errW_some] <;> rfl) | (simp [errW_none, errW_some] <;> exact ⟨rfl, rfl⟩) | (simp [*, errW_none, errW_some] <;> exact ⟨rfl, rfl⟩), by repeat (first | (with_reducible first | exact HB.out | apply below_alloc | apply pw_below_drewN | apply below_drew1) | exact HB.out)⟩ | exact ⟨⟨0, .nilIface, by first | rfl | (simp [errW_none, errW_some] <;> rfl) | (simp [*, errW_none, errW_some] <;> rfl) | (simp [errW_none, errW_some] <;> exact ⟨rfl, rfl⟩) | (simp [*, errW_none, errW_some] <;> exact ⟨rfl, rfl⟩)⟩, by repeat (first | (with_reducible first | exact HB.out | apply below_alloc | apply pw_below_drewN | apply below_drew1) | exact HB.out)⟩
end Go.Proofs.YtnajijaachgipaaDoor.PR
end
section
namespace Go.Proofs.YtnajijaachgipaaDoor.PR
open Go.RowKit Go.Proofs.YtnajijaachgipaaDoorW.PrintWords Go.Proofs.YtnajijaachgipaaDoorW.PrintLast Go.Proofs.YtnajijaachgipaaDoorW.PrintMore
attribute [local go_sem] max2_int min2_int max_two min_two max_three min_three max_four min_four   -- for this text's walks alone
set_option linter.unusedVariables false
set_option linter.unusedSimpArgs false
/-! ### fastjson_parseRawKey: function 95 -/
def fastjson_parseRawKey.l0 : Nat → ByteArray → Int → Int → Option (ByteArray × ByteArray × Option Int)
 | 0, _, _, _ => none
 | k + 1, x0, x7, x8 => if x8 < x7 then (if 0 ≤ x8 then (if x8 < (x0.size : Int) then (if (bt x0 x8) = 34 then (if x8 ≤ (x0.size : Int) then (if 0 ≤ (wrap64 (x8 + 1)) then (if (wrap64 (x8 + 1)) ≤ (x0.size : Int) then (some (x0.extract 0 (x8 : Int).toNat, x0.extract ((wrap64 (x8 + 1)) : Int).toNat x0.size, none)) else (none)) else (none)) else (none)) else (if (bt x0 x8) = 92 then ((fastjson_parseRawString.f k x0).bind fun bt177 => (some (bt177.1, bt177.2.1, bt177.2.2))) else (fastjson_parseRawKey.l0 k x0 x7 (wrap64 (x8 + 1))))) else (none)) else (none)) else ((errors_New.f (⟨#[109, 105, 115, 115, 105, 110, 103, 32, 99, 108, 111, 115, 105, 110, 103]⟩ : ByteArray)).bind fun t176 => (some (x0, (⟨#[]⟩ : ByteArray), t176)))
def fastjson_parseRawKey.f (k : Nat) (a0 : ByteArray) : Option (ByteArray × ByteArray × Option Int) := fastjson_parseRawKey.l0 k a0 (a0.size : Int) 0
theorem fastjson_parseRawKey.mono_l : ∀ k, (∀ y0 y1 y2, LeO (fastjson_parseRawKey.l0 k y0 y1 y2) (fastjson_parseRawKey.l0 (k + 1) y0 y1 y2))
 | 0 => fun _ _ _ r h => by simp [fastjson_parseRawKey.l0] at h
 | k + 1 => by
  have ih0 := fastjson_parseRawKey.mono_l k
  ·intro y0 y1 y2
   unfold fastjson_parseRawKey.l0
   repeat' first
   | (with_reducible exact ih0 _ _ _)
   | (with_reducible exact fastjson_parseRawString.mono _ _)
   | (with_reducible exact LeO.refl _)
   | (with_reducible exact LeO.none _)
   | (with_reducible refine LeO.ite ?_ ?_)
   | (with_reducible refine LeO.bind ?_ (fun _ => ?_))
   | exact ih0 _ _ _
   | exact fastjson_parseRawString.mono _ _
   | exact LeO.none _
   | refine LeO.ite ?_ ?_
   | refine LeO.bind ?_ (fun _ => ?_)
theorem fastjson_parseRawKey.mono : ∀ a0 k, LeO (fastjson_parseRawKey.f k a0) (fastjson_parseRawKey.f (k + 1) a0) := by
 intro a0 k
 have ih0 := fastjson_parseRawKey.mono_l k
 unfold fastjson_parseRawKey.f
 repeat' first
   | (with_reducible exact ih0 _ _ _)
   | (with_reducible exact fastjson_parseRawString.mono _ _)
   | (with_reducible exact LeO.refl _)
   | (with_reducible exact LeO.none _)
   | (with_reducible refine LeO.ite ?_ ?_)
   | (with_reducible refine LeO.bind ?_ (fun _ => ?_))
   | exact ih0 _ _ _
   | exact fastjson_parseRawString.mono _ _
   | exact LeO.none _
   | refine LeO.ite ?_ ?_
   | refine LeO.bind ?_ (fun _ => ?_)
set_option maxHeartbeats 8000000 in
set_option maxRecDepth 100000 in
theorem fastjson_parseRawKey.calls (k : Nat) (a0 : ByteArray) (r1 : ByteArray) (r2 : ByteArray) (r3 : Option Int) (w : World) (h : fastjson_parseRawKey.f k a0 = some (r1, r2, r3)) :
  Calls Tryd.prog 95 #[.string a0] w fun e w' => ∃ (et2_ : Nat) (ep2_ : Value), e = .returned (.tuple #[.string r1, .string r2, errX et2_ ep2_ r3]) ∧ Below w.heap.size w w' := by
 have HB := Aside0.mk (Below.refl w.heap.size w)
 have H : (fastjson_parseRawKey.l0 k a0 (a0.size : Int) 0) = some (r1, r2, r3) := h
 clear h
 have H' := Aside0.mk H
 clear H
 go_enter Tryd.func95, Tryd.ntmps95
 go_wp2
 repeat (go_quiet (fail); try go_wp2)
 try simp only [Act.put, List.setIfInBounds_toArray, List.set_cons_succ, List.set_cons_zero]
 go_loopg [8] k (fun kq v8 w' => ∃ (x8_1 : Int), v8 = .int .i64 x8_1 ∧ Aside0 (fastjson_parseRawKey.l0 kq a0 (a0.size : Int) x8_1 = some (r1, r2, r3)) ∧ Aside0 (kq ≤ k) ∧ Aside0 (Below w.heap.size w w'))
 case atStart => exact ⟨(0), (by first | rfl | (simp; done) | (simp [*]; done)), H', ⟨Nat.le_refl _⟩, ⟨by repeat (first | (with_reducible first | exact HB.out | apply below_alloc | apply pw_below_drewN | apply below_drew1) | exact HB.out)⟩⟩
 case round =>
  clear H'
  obtain ⟨x8_1, rfl, HA, HK1, HB⟩ := hrel
  cases gk with
  | zero => exact absurd HA.out (by simp [fastjson_parseRawKey.l0])
  | succ k1 =>
   have H := HA.out
   clear HA
   simp only [fastjson_parseRawKey.l0] at H
   by_cases c2 : x8_1 < (a0.size : Int)
   ·rw [if_pos c2] at H
    have c2b0 : decide (x8_1 < (a0.size : Int)) = true := decide_eq_true c2
    clear c2
    by_cases c3 : 0 ≤ x8_1
    ·rw [if_pos c3] at H
     have c3b0 : decide (0 ≤ x8_1) = true := decide_eq_true c3
     clear c3
     by_cases c4 : x8_1 < (a0.size : Int)
     ·rw [if_pos c4] at H
      have c4b0 : decide (x8_1 < (a0.size : Int)) = true := decide_eq_true c4
      clear c4
      by_cases c6 : (bt a0 x8_1) = 34
      ·rw [if_pos c6] at H
       have c6b0 : ((bt a0 x8_1) == 34) = true := beq_iff_eq.mpr c6
       have c6b1 : ((bt a0 x8_1) != 34) = false := bne_eq_false_iff_eq.mpr c6
       clear c6
       have c7b0 := eq_true (of_decide_eq_true (by assumption) : 0 ≤ x8_1)
       by_cases c8 : x8_1 ≤ (a0.size : Int)
       ·rw [if_pos c8] at H
        have c8b0 := eq_true c8
        have c8b1 : decide (x8_1 ≤ (a0.size : Int)) = true := decide_eq_true c8
        clear c8
        obtain ⟨ji9, hji9⟩ : ∃ j_ : Int, (wrap64 (x8_1 + 1)) = j_ := ⟨_, rfl⟩
        replace H : (if 0 ≤ (ji9) then (if (ji9) ≤ (a0.size : Int) then (some (a0.extract 0 (x8_1 : Int).toNat, a0.extract ((ji9) : Int).toNat a0.size, none)) else (none)) else (none)) = some (r1, r2, r3) := by first | (rw [hji9] at H; exact H) | (simp only [hji9] at H ⊢; exact H)
        have hji9w : (IntKind.i64.wrap (x8_1 + 1)) = ji9 := (i64_w _).trans hji9
        by_cases c10 : 0 ≤ (ji9)
        ·rw [if_pos c10] at H
         have c10b0 := eq_true c10
         have c10b1 : decide (0 ≤ (ji9)) = true := decide_eq_true c10
         clear c10
         by_cases c11 : (ji9) ≤ (a0.size : Int)
         ·rw [if_pos c11] at H
          have c11b0 := eq_true c11
          have c11b1 : decide ((ji9) ≤ (a0.size : Int)) = true := decide_eq_true c11
          clear c11
          simp only [Option.some.injEq, Prod.mk.injEq] at H
          obtain ⟨rfl, rfl, rfl⟩ := H
          have p5 : 0 ≤ (x8_1 : Int) := of_decide_eq_true (by assumption)
          have q5 : x8_1 < (a0.size : Int) := of_decide_eq_true (by assumption)
          have hx5 := bt_at a0 x8_1
          replace p5 := eq_true p5
          replace q5 := eq_true q5
          try have hcs12 := fun W_ : World => run_slice_string_h (P := Tryd.prog) W_ 9 a0 Tryd.underlying9 .i64 x8_1 (of_decide_eq_true (by assumption)) (of_decide_eq_true (by assumption))
          try have hcs13 := fun W_ : World => run_slice_string_l (P := Tryd.prog) W_ 9 a0 Tryd.underlying9 .i64 (ji9) (of_decide_eq_true (by assumption)) (of_decide_eq_true (by assumption))
          go_wp2
          repeat (go_quiet (fail); try go_wp2)
          go_ret3
          first | exact ⟨0, .nilIface, by first | rfl | (simp [errW_none, errW_some] <;> rfl) | (simp only [← hji9]; first | rfl | (simp [errW_none, errW_some] <;> rfl)) | (simp [*, errW_none, errW_some] <;> rfl) | (simp [errW_none, errW_some] <;> exact ⟨rfl, rfl⟩) | (simp [*, errW_none, errW_some] <;> exact ⟨rfl, rfl⟩), by repeat (first | (with_reducible first | exact HB.out | apply below_alloc | apply pw_below_drewN | apply below_drew1) | exact HB.out)⟩ | exact ⟨⟨0, .nilIface, by first | rfl | (simp [errW_none, errW_some] <;> rfl) | (simp only [← hji9]; first | rfl | (simp [errW_none, errW_some] <;> rfl)) | (simp [*, errW_none, errW_some] <;> rfl) | (simp [errW_none, errW_some] <;> exact ⟨rfl, rfl⟩) | (simp [*, errW_none, errW_some] <;> exact ⟨rfl, rfl⟩)⟩, by repeat (first | (with_reducible first | exact HB.out | apply below_alloc | apply pw_below_drewN | apply below_drew1) | exact HB.out)⟩
         rw [if_neg c11] at H
         exact absurd H (by simp)
        rw [if_neg c10] at H
        exact absurd H (by simp)
       rw [if_neg c8] at H
       exact absurd H (by simp)
      rw [if_neg c6] at H
      have c6b0 : ((bt a0 x8_1) == 34) = false := beq_eq_false_iff_ne.mpr c6
      have c6b1 : ((bt a0 x8_1) != 34) = true := bne_iff_ne.mpr c6
      by_cases c15 : (bt a0 x8_1) = 92
      ·rw [if_pos c15] at H
       have c15b0 : ((bt a0 x8_1) == 92) = true := beq_iff_eq.mpr c15
       have c15b1 : ((bt a0 x8_1) != 92) = false := bne_eq_false_iff_eq.mpr c15
       clear c15
       replace H := Option.bind_eq_some_iff.mp H
       obtain ⟨⟨t177, t178, t179⟩, A160, H⟩ := H
       replace H : (some (t177, t178, t179)) = some (r1, r2, r3) := H
       have A16 := Aside0.mk A160
       clear A160
       simp only [Option.some.injEq, Prod.mk.injEq] at H
       obtain ⟨rfl, rfl, rfl⟩ := H
       have p5 : 0 ≤ (x8_1 : Int) := of_decide_eq_true (by assumption)
       have q5 : x8_1 < (a0.size : Int) := of_decide_eq_true (by assumption)
       have hx5 := bt_at a0 x8_1
       replace p5 := eq_true p5
       replace q5 := eq_true q5
       have p14 : 0 ≤ (x8_1 : Int) := of_decide_eq_true (by assumption)
       have q14 : x8_1 < (a0.size : Int) := of_decide_eq_true (by assumption)
       have hx14 := bt_at a0 x8_1
       replace p14 := eq_true p14
       replace q14 := eq_true q14
       go_wp2_with (first | (go_at_call 73; (with_reducible refine (fastjson_parseRawString.calls k1 a0 t177 t178 t179 _ A16.out).mono ?_); rintro e w17 ⟨et_A16_2, ep_A16_2, rfl, hb⟩; have n0_ := Aside0.mk (below_step (by repeat (first | (with_reducible first | exact HB.out | apply below_alloc | apply pw_below_drewN | apply below_drew1) | exact HB.out)) hb); clear HB; have HB := n0_; clear n0_; (try clear hb); (try clear hb2); (try clear hk); (try clear hi); (try simp only [errW_none, errW_some, errX_none, errX_some])))
       repeat (go_quiet (first | (go_at_call 73; (with_reducible refine (fastjson_parseRawString.calls k1 a0 t177 t178 t179 _ A16.out).mono ?_); rintro e w17 ⟨et_A16_2, ep_A16_2, rfl, hb⟩; have n0_ := Aside0.mk (below_step (by repeat (first | (with_reducible first | exact HB.out | apply below_alloc | apply pw_below_drewN | apply below_drew1) | exact HB.out)) hb); clear HB; have HB := n0_; clear n0_; (try clear hb); (try clear hb2); (try clear hk); (try clear hi); (try simp only [errW_none, errW_some, errX_none, errX_some]))); try go_wp2_with (first | (go_at_call 73; (with_reducible refine (fastjson_parseRawString.calls k1 a0 t177 t178 t179 _ A16.out).mono ?_); rintro e w17 ⟨et_A16_2, ep_A16_2, rfl, hb⟩; have n0_ := Aside0.mk (below_step (by repeat (first | (with_reducible first | exact HB.out | apply below_alloc | apply pw_below_drewN | apply below_drew1) | exact HB.out)) hb); clear HB; have HB := n0_; clear n0_; (try clear hb); (try clear hb2); (try clear hk); (try clear hi); (try simp only [errW_none, errW_some, errX_none, errX_some]))))
       go_ret3
       first | exact ⟨et_A16_2, ep_A16_2, by first | rfl | (simp [errW_none, errW_some] <;> rfl) | (simp [*, errW_none, errW_some] <;> rfl) | (simp [errW_none, errW_some] <;> exact ⟨rfl, rfl⟩) | (simp [*, errW_none, errW_some] <;> exact ⟨rfl, rfl⟩), by repeat (first | (with_reducible first | exact HB.out | apply below_alloc | apply pw_below_drewN | apply below_drew1) | exact HB.out)⟩ | exact ⟨⟨et_A16_2, ep_A16_2, by first | rfl | (simp [errW_none, errW_some] <;> rfl) | (simp [*, errW_none, errW_some] <;> rfl) | (simp [errW_none, errW_some] <;> exact ⟨rfl, rfl⟩) | (simp [*, errW_none, errW_some] <;> exact ⟨rfl, rfl⟩)⟩, by repeat (first | (with_reducible first | exact HB.out | apply below_alloc | apply pw_below_drewN | apply below_drew1) | exact HB.out)⟩
      rw [if_neg c15] at H
      have c15b0 : ((bt a0 x8_1) == 92) = false := beq_eq_false_iff_ne.mpr c15
      have c15b1 : ((bt a0 x8_1) != 92) = true := bne_iff_ne.mpr c15
      have H' := Aside0.mk H
      clear H
      have p5 : 0 ≤ (x8_1 : Int) := of_decide_eq_true (by assumption)
      have q5 : x8_1 < (a0.size : Int) := of_decide_eq_true (by assumption)
      have hx5 := bt_at a0 x8_1
      replace p5 := eq_true p5
      replace q5 := eq_true q5
      have p14 : 0 ≤ (x8_1 : Int) := of_decide_eq_true (by assumption)
      have q14 : x8_1 < (a0.size : Int) := of_decide_eq_true (by assumption)
      have hx14 := bt_at a0 x8_1
      replace p14 := eq_true p14
      replace q14 := eq_true q14
      go_wp2
      repeat (go_quiet (fail); try go_wp2)
      go_roundg k1
      case measure => have := HK1.out; omega
      case rel => exact ⟨(wrap64 (x8_1 + 1)), (by first | rfl | (simp; done) | (simp [*]; done)), H', ⟨by have := HK1.out; omega⟩, ⟨by repeat (first | (with_reducible first | exact HB.out | apply below_alloc | apply pw_below_drewN | apply below_drew1) | exact HB.out)⟩⟩
     rw [if_neg c4] at H
     exact absurd H (by simp)
    rw [if_neg c3] at H
    exact absurd H (by simp)
   rw [if_neg c2] at H
   have c2b0 : decide (x8_1 < (a0.size : Int)) = false := decide_eq_false c2
   clear c2
   replace H := Option.bind_eq_some_iff.mp H
   obtain ⟨t176, A180, H⟩ := H
   replace H : (some (a0, (⟨#[]⟩ : ByteArray), t176)) = some (r1, r2, r3) := H
   have A18 := Aside0.mk A180
   clear A180
   simp only [Option.some.injEq, Prod.mk.injEq] at H
   obtain ⟨rfl, rfl, rfl⟩ := H
   go_wp2_with (first | (go_at_call 41; (with_reducible refine (errors_New.calls (⟨#[109, 105, 115, 115, 105, 110, 103, 32, 99, 108, 111, 115, 105, 110, 103]⟩ : ByteArray) t176 _ A18.out).mono ?_); rintro e w19 ⟨et_A18_0, ep_A18_0, rfl, hb⟩; have n0_ := Aside0.mk (below_step (by repeat (first | (with_reducible first | exact HB.out | apply below_alloc | apply pw_below_drewN | apply below_drew1) | exact HB.out)) hb); clear HB; have HB := n0_; clear n0_; (try clear hb); (try clear hb2); (try clear hk); (try clear hi); (try simp only [errW_none, errW_some, errX_none, errX_some])))
   repeat (go_quiet (first | (go_at_call 41; (with_reducible refine (errors_New.calls (⟨#[109, 105, 115, 115, 105, 110, 103, 32, 99, 108, 111, 115, 105, 110, 103]⟩ : ByteArray) t176 _ A18.out).mono ?_); rintro e w19 ⟨et_A18_0, ep_A18_0, rfl, hb⟩; have n0_ := Aside0.mk (below_step (by repeat (first | (with_reducible first | exact HB.out | apply below_alloc | apply pw_below_drewN | apply below_drew1) | exact HB.out)) hb); clear HB; have HB := n0_; clear n0_; (try clear hb); (try clear hb2); (try clear hk); (try clear hi); (try simp only [errW_none, errW_some, errX_none, errX_some]))); try go_wp2_with (first | (go_at_call 41; (with_reducible refine (errors_New.calls (⟨#[109, 105, 115, 115, 105, 110, 103, 32, 99, 108, 111, 115, 105, 110, 103]⟩ : ByteArray) t176 _ A18.out).mono ?_); rintro e w19 ⟨et_A18_0, ep_A18_0, rfl, hb⟩; have n0_ := Aside0.mk (below_step (by repeat (first | (with_reducible first | exact HB.out | apply below_alloc | apply pw_below_drewN | apply below_drew1) | exact HB.out)) hb); clear HB; have HB := n0_; clear n0_; (try clear hb); (try clear hb2); (try clear hk); (try clear hi); (try simp only [errW_none, errW_some, errX_none, errX_some]))))
   go_ret3
   first | exact ⟨et_A18_0, ep_A18_0, by first | rfl | (simp [errW_none, errW_some] <;> rfl) | (simp [*, errW_none, errW_some] <;> rfl) | (simp [errW_none, errW_some] <;> exact ⟨rfl, rfl⟩) | (simp [*, errW_none, errW_some] <;> exact ⟨rfl, rfl⟩), by repeat (first | (with_reducible first | exact HB.out | apply below_alloc | apply pw_below_drewN | apply below_drew1) | exact HB.out)⟩ | exact ⟨⟨et_A18_0, ep_A18_0, by first | rfl | (simp [errW_none, errW_some] <;> rfl) | (simp [*, errW_none, errW_some] <;> rfl) | (simp [errW_none, errW_some] <;> exact ⟨rfl, rfl⟩) | (simp [*, errW_none, errW_some] <;> exact ⟨rfl, rfl⟩)⟩, by repeat (first | (with_reducible first | exact HB.out | apply below_alloc | apply pw_below_drewN | apply below_drew1) | exact HB.out)⟩
end Go.Proofs.YtnajijaachgipaaDoor.PR
end
section
namespace Go.Proofs.YtnajijaachgipaaDoor.H
open Go.RowKit Go.Proofs.YtnajijaachgipaaDoorW.PrintWords Go.Proofs.YtnajijaachgipaaDoorW.PrintLast Go.Proofs.YtnajijaachgipaaDoorW.PrintMore
set_option linter.unusedVariables false
/-! ### what has changed -/
/-- Between two worlds only the places of S have changed, of those that were there. -/
structure Ch (W W' : World) (S : Nat → Nat → Prop) : Prop where
 os : W'.os = W.os
 tape : W'.tape = W.tape
 output : W'.output = W.output
 size : W.heap.size ≤ W'.heap.size
 block : ∀ k, k < W.heap.size → (∀ o, ¬ S k o) → W'.heap[k]? = W.heap[k]?
 form : ∀ k, k < W.heap.size → ∀ cur ty, W.heap[k]? = some (.cells cur ty (0, 0)) → ∃ cur', W'.heap[k]? = some (.cells cur' ty (0, 0)) ∧ cur'.size = cur.size
 cell : ∀ k o, k < W.heap.size → ¬ S k o → W'.cell? ⟨k, o, none⟩ = W.cell? ⟨k, o, none⟩
section
variable {W W0 W1 W2 : World} {S S1 S2 : Nat → Nat → Prop}
theorem Ch.refl (W : World) (S : Nat → Nat → Prop) : Ch W W S := ⟨rfl, rfl, rfl, Nat.le_refl _, fun _ _ _ => rfl, fun _ _ cur ty h => ⟨cur, h, rfl⟩, fun _ _ _ _ => rfl⟩
theorem Ch.comp (h : Ch W0 W1 S) (h1 : Ch W1 W2 S1) (hS : ∀ k o, k < W0.heap.size → S1 k o → S k o) : Ch W0 W2 S := by
 refine ⟨h1.os.trans h.os, h1.tape.trans h.tape, h1.output.trans h.output, Nat.le_trans h.size h1.size, fun k hk hn => ?_, fun k hk cur ty hc => ?_, fun k o hk hn => ?_⟩
 ·exact (h1.block k (Nat.lt_of_lt_of_le hk h.size) (fun o ho => hn o (hS k o hk ho))).trans (h.block k hk hn)
 ·obtain ⟨c1, e1, s1⟩ := h.form k hk cur ty hc
  obtain ⟨c2, e2, s2⟩ := h1.form k (Nat.lt_of_lt_of_le hk h.size) c1 ty e1
  exact ⟨c2, e2, s2.trans s1⟩
 exact (h1.cell k o (Nat.lt_of_lt_of_le hk h.size) (fun ho => hn (hS k o hk ho))).trans (h.cell k o hk hn)
theorem Ch.mono (h : Ch W0 W1 S) (hS : ∀ k o, k < W0.heap.size → S k o → S1 k o) : Ch W0 W1 S1 :=
 ⟨h.os, h.tape, h.output, h.size, fun k hk hn => h.block k hk (fun o ho => hn o (hS k o hk ho)), h.form, fun k o hk hn => h.cell k o hk (fun ho => hn (hS k o hk ho))⟩
theorem Ch.of_below (h : Below W.heap.size W W1) (S : Nat → Nat → Prop) : Ch W W1 S :=
 ⟨h.os, h.tape, h.output, h.size, fun k hk _ => h.block k hk, fun k hk cur ty hc => ⟨cur, (h.block k hk).trans hc, rfl⟩, fun k o hk _ => World.cell?_of_block (h.block k hk)⟩
theorem Ch.below (h : Ch W W1 S) (hS : ∀ k o, k < W.heap.size → ¬ S k o) : Below W.heap.size W W1 := ⟨h.os, h.tape, h.output, h.size, fun k hk => h.block k hk (fun o => hS k o hk)⟩
theorem Ch.grown (h : Ch W0 W1 S) {row : Option Nat} (hg : W1.grownBy W2 row) (hr : ∀ r, row = some r → W0.heap.size ≤ r) : Ch W0 W2 S := by
 have hb : ∀ k, k < W0.heap.size → W2.heap[k]? = W1.heap[k]? := fun k hk => hg.block k (Nat.lt_of_lt_of_le hk h.size) (fun e => by have := hr k e.symm; omega)
 refine ⟨hg.os.trans h.os, hg.tape.trans h.tape, hg.output.trans h.output, Nat.le_trans h.size hg.size, fun k hk hn => (hb k hk).trans (h.block k hk hn), fun k hk cur ty hc => ?_, fun k o hk hn => (World.cell?_of_block (hb k hk)).trans (h.cell k o hk hn)⟩
 obtain ⟨c1, e1, s1⟩ := h.form k hk cur ty hc
 exact ⟨c1, (hb k hk).trans e1, s1⟩
theorem Ch.set {b o : Nat} {cur : Array Value} {ty : TypeId} (hc : W.heap[b]? = some (.cells cur ty (0, 0))) (v : Value) : Ch W (W.setCell ⟨b, o, none⟩ v) (fun k p => k = b ∧ p = o) := by
 rw [setCell_eq_setRow W b o cur ty (0, 0) v hc]
 have hh := setRow_heap W b cur (cur.setIfInBounds o v) ty (0, 0) hc
 refine ⟨rfl, rfl, rfl, by simp, fun k hk hn => ?_, fun k hk cur' ty' hc' => ?_, fun k p hk hn => ?_⟩
 ·exact setRow_other _ _ _ _ (fun e => hn o ⟨e, rfl⟩)
 ·by_cases e : k = b
  ·subst e
   rw [hc] at hc'
   injection hc' with hc'
   injection hc' with e1 e2 _
   subst e1 e2
   exact ⟨_, hh, by simp⟩
  exact ⟨cur', (setRow_other _ _ _ _ e).trans hc', rfl⟩
 by_cases e : k = b
 ·subst e
  have hp : o ≠ p := fun e => hn ⟨rfl, e.symm⟩
  rw [cell_of_row _ k p _ ty (0, 0) hh, cell_of_row _ k p _ ty (0, 0) hc, Array.getElem?_setIfInBounds_ne hp]
 exact World.cell?_of_block (setRow_other _ _ _ _ e)
theorem Ch.lt (h : Ch W0 W1 S) {k : Nat} (hk : k < W0.heap.size) : k < W1.heap.size := Nat.lt_of_lt_of_le hk h.size
end
/-! ### the cache -/
def zc : Array Value := #[.slice none 0 0, .bool false, .slice none 0 0, .string ByteArray.empty, .int .i64 0]
theorem zeroCells_succ (z : Array Value) (n : Nat) : Builtin.zeroCells z (n + 1) = z ++ Builtin.zeroCells z n := by
 apply Array.ext
 ·simp only [Builtin.zeroCells, Array.size_map, Array.size_range, Array.size_append, Nat.succ_mul]; omega
 intro i h1 h2
 simp only [Builtin.zeroCells, Array.size_map, Array.size_range] at h1
 have hz : 0 < z.size := by
  rcases Nat.eq_zero_or_pos z.size with e | e
  ·rw [e] at h1; simp at h1
  exact e
 simp only [Builtin.zeroCells, Array.getElem_map, Array.getElem_range, Array.getElem_append]
 split
 ·rename_i h
  rw [Nat.mod_eq_of_lt h, getElem!_pos z i h]
 rename_i h
 rw [Nat.mod_eq_sub_mod (by omega)]
/-- The cell of a cache. -/
def cv : Option (Nat × Nat) → Nat → Value
 | none, _ => .slice none 0 0
 | some x, n => .slice (some ⟨x.1, 0, none⟩) n x.2
/-- A slice at ⟨g, co⟩ has n elements; they lie in the block that Bo names, and what is behind them there is new. -/
structure CS (Z : Array Value) (E : TypeId) (W : World) (g co : Nat) (Bo : Option (Nat × Nat)) (n : Nat) : Prop where
 cell : ∃ arr ty, W.heap[g]? = some (.cells arr ty (0, 0)) ∧ arr[co]? = some (cv Bo n)
 row : (Bo = none ∧ n = 0) ∨ ∃ (B c : Nat) (xs : List Value), Bo = some (B, c) ∧ B ≠ g ∧ n ≤ c ∧ c ≤ maxLen ∧ xs.length = n * Z.size ∧ W.heap[B]? = some (.cells (xs.toArray ++ Builtin.zeroCells Z (c - n)) E (0, 0))
/-- The places that a step with the cache may change. -/
def SK (g co : Nat) (Bo : Option (Nat × Nat)) (n : Nat) (b o : Nat) : Prop := (b = g ∧ o = co) ∨ ∃ c, Bo = some (b, c) ∧ n ≤ o
/-- The places that no step with the cache changes. -/
def Old (W : World) (g : Nat) (Bo : Option (Nat × Nat)) (n : Nat) (b o : Nat) : Prop := b < W.heap.size ∧ b ≠ g ∧ ∀ c, Bo = some (b, c) → o < n
def Lk (W : World) (Bo : Option (Nat × Nat)) (n : Nat) (B1 : Option (Nat × Nat)) (n1 : Nat) : Prop := n ≤ n1 ∧ ∀ B c, B1 = some (B, c) → (∃ c', Bo = some (B, c')) ∨ W.heap.size ≤ B
section
variable {W W0 W1 W2 : World} {g co n n1 n2 b o : Nat} {Bo B1 B2 : Option (Nat × Nat)} {S : Nat → Nat → Prop}
theorem Old.not (h : Old W g Bo n b o) : ¬ SK g co Bo n b o := by
 rintro (⟨e, _⟩ | ⟨c, e, hle⟩)
 ·exact h.2.1 e
 have := h.2.2 c e; omega
theorem not_old (hb : b < W.heap.size) (hg : b ≠ g) (h : ¬ Old W g Bo n b o) : ∃ c, Bo = some (b, c) ∧ n ≤ o := by
 by_cases hx : ∃ c, Bo = some (b, c)
 ·obtain ⟨c, e⟩ := hx
  refine ⟨c, e, ?_⟩
  rcases Nat.lt_or_ge o n with q | q
  ·exact absurd ⟨hb, hg, fun _ _ => q⟩ h
  exact q
 exact absurd ⟨hb, hg, fun c e => absurd ⟨c, e⟩ hx⟩ h
theorem Lk.refl (W : World) (Bo : Option (Nat × Nat)) (n : Nat) : Lk W Bo n Bo n := ⟨Nat.le_refl _, fun B c e => .inl ⟨c, e⟩⟩
theorem Lk.trans (h : Lk W Bo n B1 n1) (h1 : Lk W1 B1 n1 B2 n2) (hs : W.heap.size ≤ W1.heap.size) : Lk W Bo n B2 n2 := by
 refine ⟨Nat.le_trans h.1 h1.1, fun B c e => ?_⟩
 rcases h1.2 B c e with ⟨c', e'⟩ | hle
 ·exact h.2 B c' e'
 exact .inr (Nat.le_trans hs hle)
/-- What may change later was new or might change before. -/
theorem Lk.sub (h : Lk W Bo n B1 n1) : ∀ k p, k < W.heap.size → SK g co B1 n1 k p → SK g co Bo n k p := by
 rintro k p hk (e | ⟨c, e, hle⟩)
 ·exact .inl e
 rcases h.2 k c e with ⟨c', e'⟩ | hle'
 ·exact .inr ⟨c', e', by have := h.1; omega⟩
 omega
theorem Old.step (h : Old W g Bo n b o) (l : Lk W Bo n B1 n1) (hs : W.heap.size ≤ W1.heap.size) : Old W1 g B1 n1 b o := by
 refine ⟨Nat.lt_of_lt_of_le h.1 hs, h.2.1, fun c e => ?_⟩
 rcases l.2 b c e with ⟨c', e'⟩ | hle
 ·have := h.2.2 c' e'; have := l.1; omega
 have := h.1; omega
theorem Old.keep (h : Old W g Bo n b o) (hc : Ch W W1 (SK g co Bo n)) : W1.cell? ⟨b, o, none⟩ = W.cell? ⟨b, o, none⟩ := hc.cell b o h.1 h.not
variable {Z : Array Value} {E : TypeId}
theorem CS.ne (h : CS Z E W g co Bo n) {B c : Nat} (e : Bo = some (B, c)) : B ≠ g := by
 rcases h.row with ⟨e', _⟩ | ⟨B', c', xs, e', hne, _⟩
 ·rw [e'] at e; cases e
 rw [e'] at e
 obtain ⟨rfl, rfl⟩ := Prod.mk.inj (Option.some.inj e)
 exact hne
theorem CS.glt (h : CS Z E W g co Bo n) : g < W.heap.size := by
 obtain ⟨arr, ty, e, _⟩ := h.cell
 exact (Array.getElem?_eq_some_iff.1 e).1
theorem CS.blt (h : CS Z E W g co Bo n) {B c : Nat} (e : Bo = some (B, c)) : B < W.heap.size := by
 rcases h.row with ⟨e', _⟩ | ⟨B', c', xs, e', _, _, _, _, hh⟩
 ·rw [e'] at e; cases e
 rw [e'] at e
 obtain ⟨rfl, rfl⟩ := Prod.mk.inj (Option.some.inj e)
 exact (Array.getElem?_eq_some_iff.1 hh).1
theorem CS.at_ (h : CS Z E W g co Bo n) : W.cell? ⟨g, co, none⟩ = some (cv Bo n) := by
 obtain ⟨arr, ty, e, hc⟩ := h.cell
 rw [cell_of_row _ g co arr ty (0, 0) e, hc]
theorem CS.soft (h : CS Z E W g co Bo n) : W.frozen? ⟨g, co, none⟩ = false := by
 obtain ⟨arr, ty, e, hc⟩ := h.cell
 simp [World.frozen?, e]
/-- Changes elsewhere. -/
theorem CS.ch (h : CS Z E W g co Bo n) (hc : Ch W W1 S) (hg : ¬ S g co) (hB : ∀ B c, Bo = some (B, c) → ∀ p, n * Z.size ≤ p → ¬ S B p) : CS Z E W1 g co Bo n := by
 have hglt := h.glt
 obtain ⟨arr, ty, e, hv⟩ := h.cell
 obtain ⟨arr', e', hs⟩ := hc.form g hglt arr ty e
 have hcell := hc.cell g co hglt hg
 rw [cell_of_row _ g co _ ty (0, 0) e', cell_of_row _ g co _ ty (0, 0) e] at hcell
 refine ⟨⟨arr', ty, e', hcell.trans hv⟩, ?_⟩
 rcases h.row with hn | ⟨B, c, xs, eB, hne, hnc, hcm, hl, hh⟩
 ·exact .inl hn
 have hBlt := h.blt eB
 obtain ⟨cur', e2, hs2⟩ := hc.form B hBlt _ _ hh
 have hxa : xs.toArray.size = n * Z.size := by rw [List.size_toArray, hl]
 refine .inr ⟨B, c, cur'.toList.take (n * Z.size), eB, hne, hnc, hcm, ?_, ?_⟩
 ·rw [List.length_take, Array.length_toList, hs2, Array.size_append, hxa]; omega
 rw [e2]
 congr 2
 apply Array.ext'
 rw [Array.toList_append]
 rw [← List.take_append_drop (n * Z.size) cur'.toList]
 congr 1
 ·simp
 apply List.ext_getElem?
 intro i
 have hq := hc.cell B (n * Z.size + i) hBlt (hB B c eB _ (by omega))
 rw [cell_of_row _ B _ _ _ (0, 0) e2, cell_of_row _ B _ _ _ (0, 0) hh, Array.getElem?_append_right (by rw [hxa]; omega), hxa, show n * Z.size + i - n * Z.size = i by omega] at hq
 rw [List.getElem?_drop, Array.getElem?_toList, Array.getElem?_toList]
 simpa using hq
end
/-! ### trees -/
inductive FT where
 | mk (k : Int) (s : ByteArray) (ks : List ByteArray) (kids : List FT)
instance : Inhabited FT := ⟨.mk 0 ByteArray.empty [] []⟩
/-- A Value lies at ⟨b, o⟩, and what hangs on it; all that is read lies in P. -/
inductive Lies (W : World) (P : Nat → Nat → Prop) : Nat → Nat → FT → Prop
 | leaf {b o : Nat} {k : Int} {s : ByteArray} (h1 : k ≠ 1) (h2 : k ≠ 2) (c3 : W.cell? ⟨b, o + 3, none⟩ = some (.string s)) (p3 : P b (o + 3)) (c4 : W.cell? ⟨b, o + 4, none⟩ = some (.int .i64 k)) (p4 : P b (o + 4)) : Lies W P b o (.mk k s [] [])
 | arr {b o ad : Nat} {v : Value} {ts : List FT} {ps : List (Nat × Nat)} (c4 : W.cell? ⟨b, o + 4, none⟩ = some (.int .i64 2)) (p4 : P b (o + 4)) (c2 : W.cell? ⟨b, o + 2, none⟩ = some v) (p2 : P b (o + 2))
   (hv : (v = .slice none 0 0 ∧ ts = []) ∨ ∃ c, v = .slice (some ⟨ad, 0, none⟩) ts.length c) (hl : ps.length = ts.length)
   (he : ∀ (j : Nat) (p : Nat × Nat), ps[j]? = some p → W.cell? ⟨ad, j, none⟩ = some (.pointer (some ⟨p.1, p.2, none⟩)) ∧ P ad j) (hk : ∀ (j : Nat) (p : Nat × Nat) (t : FT), ps[j]? = some p → ts[j]? = some t → Lies W P p.1 p.2 t) : Lies W P b o (.mk 2 ByteArray.empty [] ts)
 | obj {b o ad : Nat} {v : Value} {ks : List ByteArray} {ts : List FT} {ps : List (Nat × Nat)} (c4 : W.cell? ⟨b, o + 4, none⟩ = some (.int .i64 1)) (p4 : P b (o + 4)) (c1 : W.cell? ⟨b, o + 1, none⟩ = some (.bool false)) (p1 : P b (o + 1)) (c0 : W.cell? ⟨b, o, none⟩ = some v) (p0 : P b o)
   (hv : (v = .slice none 0 0 ∧ ts = []) ∨ ∃ c, v = .slice (some ⟨ad, 0, none⟩) ts.length c) (hl : ps.length = ts.length) (hn : ks.length = ts.length)
   (hs : ∀ (j : Nat) (k : ByteArray), ks[j]? = some k → W.cell? ⟨ad, j * 2, none⟩ = some (.string k) ∧ P ad (j * 2))
   (he : ∀ (j : Nat) (p : Nat × Nat), ps[j]? = some p → W.cell? ⟨ad, j * 2 + 1, none⟩ = some (.pointer (some ⟨p.1, p.2, none⟩)) ∧ P ad (j * 2 + 1)) (hk : ∀ (j : Nat) (p : Nat × Nat) (t : FT), ps[j]? = some p → ts[j]? = some t → Lies W P p.1 p.2 t) : Lies W P b o (.mk 1 ByteArray.empty ks ts)
theorem Lies.frame {W W1 : World} {P Q : Nat → Nat → Prop} (hP : ∀ b o, P b o → Q b o) (hc : ∀ b o, P b o → W1.cell? ⟨b, o, none⟩ = W.cell? ⟨b, o, none⟩) {b o : Nat} {t : FT} (h : Lies W P b o t) : Lies W1 Q b o t := by
 induction h with
 | leaf h1 h2 c3 p3 c4 p4 => exact .leaf h1 h2 ((hc _ _ p3).trans c3) (hP _ _ p3) ((hc _ _ p4).trans c4) (hP _ _ p4)
 | arr c4 p4 c2 p2 hv hl he _ ih => exact .arr ((hc _ _ p4).trans c4) (hP _ _ p4) ((hc _ _ p2).trans c2) (hP _ _ p2) hv hl (fun j p hp => ⟨(hc _ _ (he j p hp).2).trans (he j p hp).1, hP _ _ (he j p hp).2⟩) ih
 | obj c4 p4 c1 p1 c0 p0 hv hl hn hs he _ ih =>
  exact .obj ((hc _ _ p4).trans c4) (hP _ _ p4) ((hc _ _ p1).trans c1) (hP _ _ p1) ((hc _ _ p0).trans c0) (hP _ _ p0) hv hl hn (fun j k hk => ⟨(hc _ _ (hs j k hk).2).trans (hs j k hk).1, hP _ _ (hs j k hk).2⟩) (fun j p hp => ⟨(hc _ _ (he j p hp).2).trans (he j p hp).1, hP _ _ (he j p hp).2⟩) ih
end Go.Proofs.YtnajijaachgipaaDoor.H
end
