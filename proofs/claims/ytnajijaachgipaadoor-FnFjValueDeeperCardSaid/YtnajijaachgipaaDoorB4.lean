/- Texts of this claim put together: PTx35, PTx3, PTx4, PTx5, PTx6, PTx7, PTx8. -/
import Derived.Test.YtnajijaachgipaaDoorB0
import Derived.Test.YtnajijaachgipaaDoorB3
section
namespace Go.Proofs.YtnajijaachgipaaDoor.PT
open Go.RowKit Go.Proofs.YtnajijaachgipaaDoorW.PrintWords Go.Proofs.YtnajijaachgipaaDoorW.PrintLast Go.Proofs.YtnajijaachgipaaDoorW.PrintMore
attribute [local go_sem] max2_int min2_int max_two min_two max_three min_three max_four min_four   -- for this text's walks alone
set_option linter.unusedVariables false
set_option linter.unusedSimpArgs false
/-! ### laws_FnFjValueDeeper: function 6 -/
def laws_FnFjValueDeeper.f (k : Nat) (a0 : ByteArray) (a1 : Int) (a2 : Int) : Option (Bool) := if (a0.size : Int) > 2147483647 then (some true) else (if (a0.size : Int) > 4000 then (some true) else ((impl_FjValueAt.f k a0 (Int.tmod (wrap64 (a1)) 300)).bind fun bt317 => (if (wrap64 ((Int.tmod (wrap64 (a1)) 300) + 1)) = 0 then (none) else ((impl_FjValueAt.f k a0 (Int.tmod (wrap64 (a2)) (wrap64 ((Int.tmod (wrap64 (a1)) 300) + 1)))).bind fun bt328 => ((impl_FjValueAt.f k (⟨#[49]⟩ : ByteArray) 299).bind fun bt339 => (if bt339.2.2.2.2.2 = true then (if bt317.2.2.2.2.2 = true then (if bt328.2.2.2.2.2 = true then (if bt317.2.2.2.2.1.toList = bt328.2.2.2.2.1.toList then ((spec_Same.f k bt317.1 bt317.2.1 bt317.2.2.1 bt317.2.2.2.1 bt328.1 bt328.2.1 bt328.2.2.1 bt328.2.2.2.1).bind fun t350 => (some t350)) else (some false)) else (some false)) else (some true)) else (some false)))))))
theorem laws_FnFjValueDeeper.mono : ∀ a0 a1 a2 k, LeO (laws_FnFjValueDeeper.f k a0 a1 a2) (laws_FnFjValueDeeper.f (k + 1) a0 a1 a2) := by
 intro a0 a1 a2 k
 unfold laws_FnFjValueDeeper.f
 repeat' first
   | (with_reducible exact impl_FjValueAt.mono _ _ _)
   | (with_reducible exact spec_Same.mono _ _ _ _ _ _ _ _ _)
   | (with_reducible exact LeO.refl _)
   | (with_reducible exact LeO.none _)
   | (with_reducible refine LeO.ite ?_ ?_)
   | (with_reducible refine LeO.bind ?_ (fun _ => ?_))
   | exact impl_FjValueAt.mono _ _ _
   | exact spec_Same.mono _ _ _ _ _ _ _ _ _
   | exact LeO.none _
   | refine LeO.ite ?_ ?_
   | refine LeO.bind ?_ (fun _ => ?_)
set_option maxHeartbeats 8000000 in
set_option maxRecDepth 100000 in
theorem laws_FnFjValueDeeper.calls (k : Nat) (a0 : ByteArray) (a1 : Int) (a2 : Int) (r : Bool) (w : World) (hT0 : Kd.C Kd.errk w (some ⟨0, 0, none⟩) tabG0.length tabG0) (hT1 : Kd.C Kd.errk w (some ⟨1, 0, none⟩) tabG1.length tabG1) (h : laws_FnFjValueDeeper.f k a0 a1 a2 = some r) :
  Calls Tryd.prog 6 #[.string a0, .int .u16 a1, .int .u16 a2] w fun e w' => e = .returned (.bool r) ∧ Below w.heap.size w w' := by
 have hu38 := Tryd.underlying38
 have HRG0 := Aside0.mk hT0
 clear hT0
 have HRG1 := Aside0.mk hT1
 clear hT1
 have HB := Aside0.mk (Below.refl w.heap.size w)
 have H : (if (a0.size : Int) > 2147483647 then (some true) else (if (a0.size : Int) > 4000 then (some true) else ((impl_FjValueAt.f k a0 (Int.tmod (wrap64 (a1)) 300)).bind fun bt317 => (if (wrap64 ((Int.tmod (wrap64 (a1)) 300) + 1)) = 0 then (none) else ((impl_FjValueAt.f k a0 (Int.tmod (wrap64 (a2)) (wrap64 ((Int.tmod (wrap64 (a1)) 300) + 1)))).bind fun bt328 => ((impl_FjValueAt.f k (⟨#[49]⟩ : ByteArray) 299).bind fun bt339 => (if bt339.2.2.2.2.2 = true then (if bt317.2.2.2.2.2 = true then (if bt328.2.2.2.2.2 = true then (if bt317.2.2.2.2.1.toList = bt328.2.2.2.2.1.toList then ((spec_Same.f k bt317.1 bt317.2.1 bt317.2.2.1 bt317.2.2.2.1 bt328.1 bt328.2.1 bt328.2.2.1 bt328.2.2.2.1).bind fun t350 => (some t350)) else (some false)) else (some false)) else (some true)) else (some false)))))))) = some r := h
 clear h
 by_cases c4 : (a0.size : Int) > 2147483647
 ·rw [if_pos c4] at H
  have c4b0 : decide (2147483647 < (a0.size : Int)) = true := decide_eq_true c4
  have c4b1 : decide (2147483647 < a0.size) = true := decide_eq_true (by omega)
  clear c4
  obtain rfl := Option.some.inj H
  go_enter Tryd.func6, Tryd.ntmps6
  go_wp2
  go_ret
  exact ⟨by first | rfl | (simp [errW_none, errW_some] <;> rfl) | (simp [*, errW_none, errW_some] <;> rfl) | (simp [errW_none, errW_some] <;> exact ⟨rfl, rfl⟩) | (simp [*, errW_none, errW_some] <;> exact ⟨rfl, rfl⟩), by repeat (first | (with_reducible first | exact HB.out | apply below_alloc | apply pw_below_drewN | apply below_drew1) | exact HB.out)⟩
 rw [if_neg c4] at H
 have c4b0 : decide (2147483647 < (a0.size : Int)) = false := decide_eq_false c4
 have c4b1 : decide (2147483647 < a0.size) = false := decide_eq_false (by omega)
 clear c4
 by_cases c5 : (a0.size : Int) > 4000
 ·rw [if_pos c5] at H
  have c5b0 : decide (4000 < (a0.size : Int)) = true := decide_eq_true c5
  have c5b1 : decide (4000 < a0.size) = true := decide_eq_true (by omega)
  clear c5
  obtain rfl := Option.some.inj H
  go_enter Tryd.func6, Tryd.ntmps6
  go_wp2
  go_ret
  exact ⟨by first | rfl | (simp [errW_none, errW_some] <;> rfl) | (simp [*, errW_none, errW_some] <;> rfl) | (simp [errW_none, errW_some] <;> exact ⟨rfl, rfl⟩) | (simp [*, errW_none, errW_some] <;> exact ⟨rfl, rfl⟩), by repeat (first | (with_reducible first | exact HB.out | apply below_alloc | apply pw_below_drewN | apply below_drew1) | exact HB.out)⟩
 rw [if_neg c5] at H
 have c5b0 : decide (4000 < (a0.size : Int)) = false := decide_eq_false c5
 have c5b1 : decide (4000 < a0.size) = false := decide_eq_false (by omega)
 clear c5
 replace H := Option.bind_eq_some_iff.mp H
 obtain ⟨⟨t317, t318, t319, t322, t325, t326⟩, A60, H⟩ := H
 replace H : (if (wrap64 ((Int.tmod (wrap64 (a1)) 300) + 1)) = 0 then (none) else ((impl_FjValueAt.f k a0 (Int.tmod (wrap64 (a2)) (wrap64 ((Int.tmod (wrap64 (a1)) 300) + 1)))).bind fun bt328 => ((impl_FjValueAt.f k (⟨#[49]⟩ : ByteArray) 299).bind fun bt339 => (if bt339.2.2.2.2.2 = true then (if t326 = true then (if bt328.2.2.2.2.2 = true then (if t325.toList = bt328.2.2.2.2.1.toList then ((spec_Same.f k t317 t318 t319 t322 bt328.1 bt328.2.1 bt328.2.2.1 bt328.2.2.2.1).bind fun t350 => (some t350)) else (some false)) else (some false)) else (some true)) else (some false))))) = some r := H
 have A6 := Aside0.mk A60
 clear A60
 by_cases c7 : (wrap64 ((Int.tmod (wrap64 (a1)) 300) + 1)) = 0
 ·rw [if_pos c7] at H
  exact absurd H (by simp)
 rw [if_neg c7] at H
 have c7b0 : ((wrap64 ((Int.tmod (wrap64 (a1)) 300) + 1)) == 0) = false := beq_eq_false_iff_ne.mpr c7
 have c7b1 : ((wrap64 ((Int.tmod (wrap64 (a1)) 300) + 1)) != 0) = true := bne_iff_ne.mpr c7
 replace H := Option.bind_eq_some_iff.mp H
 obtain ⟨⟨t328, t329, t330, t333, t336, t337⟩, A80, H⟩ := H
 replace H : ((impl_FjValueAt.f k (⟨#[49]⟩ : ByteArray) 299).bind fun bt339 => (if bt339.2.2.2.2.2 = true then (if t326 = true then (if t337 = true then (if t325.toList = t336.toList then ((spec_Same.f k t317 t318 t319 t322 t328 t329 t330 t333).bind fun t350 => (some t350)) else (some false)) else (some false)) else (some true)) else (some false))) = some r := H
 have A8 := Aside0.mk A80
 clear A80
 replace H := Option.bind_eq_some_iff.mp H
 obtain ⟨⟨t339, t340, t341, t344, t347, t348⟩, A90, H⟩ := H
 replace H : (if t348 = true then (if t326 = true then (if t337 = true then (if t325.toList = t336.toList then ((spec_Same.f k t317 t318 t319 t322 t328 t329 t330 t333).bind fun t350 => (some t350)) else (some false)) else (some false)) else (some true)) else (some false)) = some r := H
 have A9 := Aside0.mk A90
 clear A90
 by_cases c10 : t348 = true
 ·subst c10
  have H1 : (if t326 = true then (if t337 = true then (if t325.toList = t336.toList then ((spec_Same.f k t317 t318 t319 t322 t328 t329 t330 t333).bind fun t350 => (some t350)) else (some false)) else (some false)) else (some true)) = some r := by rw [if_pos rfl] at H; exact H
  clear H
  have H := H1
  clear H1
  by_cases c11 : t326 = true
  ·subst c11
   have H1 : (if t337 = true then (if t325.toList = t336.toList then ((spec_Same.f k t317 t318 t319 t322 t328 t329 t330 t333).bind fun t350 => (some t350)) else (some false)) else (some false)) = some r := by rw [if_pos rfl] at H; exact H
   clear H
   have H := H1
   clear H1
   by_cases c12 : t337 = true
   ·subst c12
    have H1 : (if t325.toList = t336.toList then ((spec_Same.f k t317 t318 t319 t322 t328 t329 t330 t333).bind fun t350 => (some t350)) else (some false)) = some r := by rw [if_pos rfl] at H; exact H
    clear H
    have H := H1
    clear H1
    by_cases c13 : t325.toList = t336.toList
    ·rw [if_pos c13] at H
     have c13b0 : (t325.toList == t336.toList) = true := beq_iff_eq.mpr c13
     have c13b1 : (t325.toList != t336.toList) = false := bne_eq_false_iff_eq.mpr c13
     clear c13
     replace H := Option.bind_eq_some_iff.mp H
     obtain ⟨t350, A140, H⟩ := H
     replace H : (some t350) = some r := H
     have A14 := Aside0.mk A140
     clear A140
     obtain rfl := Option.some.inj H
     go_enter Tryd.func6, Tryd.ntmps6
     go_wp2_with (first | ((with_reducible refine gate_callee (f := 17) rfl ?_); refine goesL_ (some 29) rfl rfl Tryd.func17 (by kernel_rfl) rfl #[.string a0, .int .i64 (Int.tmod (wrap64 (a1)) 300)] rfl (by (try simp only [List.map_toArray, List.map_cons, List.map_nil]); first | done | rfl | (simp only [List.length_drop, List.length_take]; rfl)) ?_; (with_reducible refine (impl_FjValueAt.calls k a0 (Int.tmod (wrap64 (a1)) 300) t317 t318 t319 t322 t325 true _ ?side1 ?side2 A6.out).mono ?_); (case side1 => repeat (first | exact Kd.C_below HRG0.out (by repeat (first | (with_reducible first | exact HB.out | apply below_alloc | apply pw_below_drewN | apply below_drew1) | exact HB.out)) | exact HRG0.out | (with_reducible refine Kd.C_alloc ?_ _) | (with_reducible refine Kd.C_drewN ?_ _) | (with_reducible refine Kd.C_drew ?_))); (case side2 => repeat (first | exact Kd.C_below HRG1.out (by repeat (first | (with_reducible first | exact HB.out | apply below_alloc | apply pw_below_drewN | apply below_drew1) | exact HB.out)) | exact HRG1.out | (with_reducible refine Kd.C_alloc ?_ _) | (with_reducible refine Kd.C_drewN ?_ _) | (with_reducible refine Kd.C_drew ?_))); rintro e w15 ⟨v320, v323, rfl, ho0, ho1, hb⟩; refine ⟨_, rfl, ?_⟩; have n0_ := Aside0.mk (Kd.R_lower ho0 (below_size (by repeat (first | (with_reducible first | exact HB.out | apply below_alloc | apply pw_below_drewN | apply below_drew1) | exact HB.out)))); have n1_ := Aside0.mk (Kd.R_lower ho1 (below_size (by repeat (first | (with_reducible first | exact HB.out | apply below_alloc | apply pw_below_drewN | apply below_drew1) | exact HB.out)))); have n2_ := Aside0.mk (below_step (by repeat (first | (with_reducible first | exact HB.out | apply below_alloc | apply pw_below_drewN | apply below_drew1) | exact HB.out)) hb); clear HB; have HO321 := n0_; have HO324 := n1_; have HB := n2_; clear n0_ n1_ n2_; (try clear hb); (try clear hb2); (try clear hk); (try clear hi); (try clear ho0); (try clear ho1)) | ((with_reducible refine gate_dst (N := 8) rfl ?_); refine box_event ?hg (N := 8) ?hd (cs := #[.int .i64 0, .string (⟨#[]⟩ : ByteArray), .slice none 0 0, .slice none 0 0]) (t := 38) ?hr ?_; (case hd => rfl); (case hg => rfl); (case hr => first | (go_simp; done) | (go_simp; rfl)); intro gb327 hg w16 hbox hb; have n0_ := Aside0.mk (Kd.R_below (by (with_reducible repeat (first | apply Kd.R_alloc | apply Kd.R_drewN | apply Kd.R_drew)); exact HO321.out) hb); have n1_ := Aside0.mk (Kd.R_below (Kd.R_elderB (by (with_reducible repeat (first | apply Kd.R_alloc | apply Kd.R_drewN | apply Kd.R_drew)); exact HO324.out) gb327 (Nat.le_of_eq hg.symm)) hb); have n2_ := Aside0.mk (below_step (by repeat (first | (with_reducible first | exact HB.out | apply below_alloc | apply pw_below_drewN | apply below_drew1) | exact HB.out)) hb); have n3_ := Aside0.mk (hbox); have n4_ := Aside0.mk ((by rw [hg]; exact (below_size (by repeat (first | (with_reducible first | exact HB.out | apply below_alloc | apply pw_below_drewN | apply below_drew1) | exact HB.out))) : w.heap.size ≤ gb327)); have n5_ := Aside0.mk ((by rw [hg]; exact (below_size (by repeat (first | (with_reducible first | exact HB.out | apply below_alloc | apply pw_below_drewN | apply below_drew1) | exact HB.out))) : w.heap.size ≤ gb327)); clear HO321; clear HO324; clear HB; have HO321 := n0_; have HO324 := n1_; have HB := n2_; have BK327 := n3_; have GW327 := n4_; have GE327 := n5_; clear n0_ n1_ n2_ n3_ n4_ n5_; clear hb hbox hg; have hcz17_0 : w16.cell? ⟨gb327, 0, none⟩ = some (.int .i64 0) := (blk_cell BK327.out 0).trans rfl; have hcz17_1 : w16.cell? ⟨gb327, 1, none⟩ = some (.string (⟨#[]⟩ : ByteArray)) := (blk_cell BK327.out 1).trans rfl; have hcz17_2 : w16.cell? ⟨gb327, 2, none⟩ = some (.slice none 0 0) := (blk_cell BK327.out 2).trans rfl; have hcz17_3 : w16.cell? ⟨gb327, 3, none⟩ = some (.slice none 0 0) := (blk_cell BK327.out 3).trans rfl; have hfz17_0 := blk_frozen BK327.out 0; have hfz17_1 := blk_frozen BK327.out 1; have hfz17_2 := blk_frozen BK327.out 2; have hfz17_3 := blk_frozen BK327.out 3; obtain ⟨Ao18, co18, eo18⟩ := Kd.R_slice HO321.out; subst eo18; obtain ⟨Ao19, co19, eo19⟩ := Kd.R_slice HO324.out; subst eo19) | ((with_reducible refine gate_callee (f := 17) rfl ?_); refine goesL_ (some 40) rfl rfl Tryd.func17 (by kernel_rfl) rfl #[.string a0, .int .i64 (Int.tmod (wrap64 (a2)) (wrap64 ((Int.tmod (wrap64 (a1)) 300) + 1)))] rfl (by (try simp only [List.map_toArray, List.map_cons, List.map_nil]); first | done | rfl | (simp only [List.length_drop, List.length_take]; rfl)) ?_; (with_reducible refine (impl_FjValueAt.calls k a0 (Int.tmod (wrap64 (a2)) (wrap64 ((Int.tmod (wrap64 (a1)) 300) + 1))) t328 t329 t330 t333 t336 true _ ?side1 ?side2 A8.out).mono ?_); (case side1 => repeat (first | exact Kd.C_below HRG0.out (by repeat (first | (with_reducible first | exact HB.out | apply below_alloc | apply pw_below_drewN | apply below_drew1 | refine below_set ?_ GE327.out) | exact HB.out)) | exact HRG0.out | (with_reducible refine Kd.C_alloc ?_ _) | (with_reducible refine Kd.C_drewN ?_ _) | (with_reducible refine Kd.C_drew ?_))); (case side2 => repeat (first | exact Kd.C_below HRG1.out (by repeat (first | (with_reducible first | exact HB.out | apply below_alloc | apply pw_below_drewN | apply below_drew1 | refine below_set ?_ GE327.out) | exact HB.out)) | exact HRG1.out | (with_reducible refine Kd.C_alloc ?_ _) | (with_reducible refine Kd.C_drewN ?_ _) | (with_reducible refine Kd.C_drew ?_))); rintro e w20 ⟨v331, v334, rfl, ho0, ho1, hb⟩; refine ⟨_, rfl, ?_⟩; have n0_ := Aside0.mk (Kd.R_elder' (by (with_reducible repeat (first | apply Kd.R_alloc | apply Kd.R_drewN | apply Kd.R_drew)); exact (Kd.R_mono (Kd.R_far (p := ⟨gb327, 3, none⟩) (Kd.R_far (p := ⟨gb327, 2, none⟩) (Kd.R_far (p := ⟨gb327, 1, none⟩) (Kd.R_far (p := ⟨gb327, 0, none⟩) (Kd.R_types HO321.out BK327.out (by decide)) (fun _ hk => hk.2) (.int .i64 t317)) (fun _ hk => hk.2) (.string t318)) (fun _ hk => hk.2) (.slice Ao18 t319.length co18)) (fun _ hk => hk.2) (.slice Ao19 t322.length co19)) (fun _ h_ => h_.1))) (Kd.R_base ho0) hb); have n1_ := Aside0.mk (Kd.R_mono (Kd.R_told (Kd.R_told (Kd.R_old (by (with_reducible repeat (first | apply Kd.R_alloc | apply Kd.R_drewN | apply Kd.R_drew)); exact (Kd.R_mono (Kd.R_far (p := ⟨gb327, 3, none⟩) (Kd.R_far (p := ⟨gb327, 2, none⟩) (Kd.R_far (p := ⟨gb327, 1, none⟩) (Kd.R_far (p := ⟨gb327, 0, none⟩) (Kd.R_mono HO324.out (fun k_ hk => (⟨hk, hk.2⟩ : _ ∧ k_ ≠ gb327))) (fun _ hk => hk.2) (.int .i64 t317)) (fun _ hk => hk.2) (.string t318)) (fun _ hk => hk.2) (.slice Ao18 t319.length co18)) (fun _ hk => hk.2) (.slice Ao19 t322.length co19)) (fun _ h_ => h_.1))) hb) (Kd.R_base ho0)) (Kd.R_base ho1)) (fun _ h_ => h_.1)); have n2_ := Aside0.mk (Kd.R_lower (Kd.R_new' ho0 (Kd.R_lt (by (with_reducible repeat (first | apply Kd.R_alloc | apply Kd.R_drewN | apply Kd.R_drew)); exact (Kd.R_mono (Kd.R_far (p := ⟨gb327, 3, none⟩) (Kd.R_far (p := ⟨gb327, 2, none⟩) (Kd.R_far (p := ⟨gb327, 1, none⟩) (Kd.R_far (p := ⟨gb327, 0, none⟩) (Kd.R_types HO321.out BK327.out (by decide)) (fun _ hk => hk.2) (.int .i64 t317)) (fun _ hk => hk.2) (.string t318)) (fun _ hk => hk.2) (.slice Ao18 t319.length co18)) (fun _ hk => hk.2) (.slice Ao19 t322.length co19)) (fun _ h_ => h_.1))))) (below_size (by repeat (first | (with_reducible first | exact HB.out | apply below_alloc | apply pw_below_drewN | apply below_drew1 | refine below_set ?_ GE327.out) | exact HB.out)))); have n3_ := Aside0.mk (Kd.R_lower (Kd.R_newB (Kd.R_new' (Kd.R_new' ho1 (Kd.R_lt (by (with_reducible repeat (first | apply Kd.R_alloc | apply Kd.R_drewN | apply Kd.R_drew)); exact (Kd.R_mono (Kd.R_far (p := ⟨gb327, 3, none⟩) (Kd.R_far (p := ⟨gb327, 2, none⟩) (Kd.R_far (p := ⟨gb327, 1, none⟩) (Kd.R_far (p := ⟨gb327, 0, none⟩) (Kd.R_types HO321.out BK327.out (by decide)) (fun _ hk => hk.2) (.int .i64 t317)) (fun _ hk => hk.2) (.string t318)) (fun _ hk => hk.2) (.slice Ao18 t319.length co18)) (fun _ hk => hk.2) (.slice Ao19 t322.length co19)) (fun _ h_ => h_.1))))) (Kd.R_lt (by (with_reducible repeat (first | apply Kd.R_alloc | apply Kd.R_drewN | apply Kd.R_drew)); exact (Kd.R_mono (Kd.R_far (p := ⟨gb327, 3, none⟩) (Kd.R_far (p := ⟨gb327, 2, none⟩) (Kd.R_far (p := ⟨gb327, 1, none⟩) (Kd.R_far (p := ⟨gb327, 0, none⟩) (Kd.R_mono HO324.out (fun k_ hk => (⟨hk, hk.2⟩ : _ ∧ k_ ≠ gb327))) (fun _ hk => hk.2) (.int .i64 t317)) (fun _ hk => hk.2) (.string t318)) (fun _ hk => hk.2) (.slice Ao18 t319.length co18)) (fun _ hk => hk.2) (.slice Ao19 t322.length co19)) (fun _ h_ => h_.1))))) (g := gb327) (o := .cells #[.int .i64 t317, .string t318, .slice Ao18 t319.length co18, .slice Ao19 t322.length co19] 38 (0, 0)) (by (with_reducible repeat (first | refine blk_drewN ?_ _ | refine blk_drew ?_ | refine blk_alloc ?_ _)); refine blk_put (cs := #[.int .i64 t317, .string t318, .slice Ao18 t319.length co18, .slice none 0 0]) ?_ 3 _ rfl; (with_reducible repeat (first | refine blk_drewN ?_ _ | refine blk_drew ?_ | refine blk_alloc ?_ _)); refine blk_put (cs := #[.int .i64 t317, .string t318, .slice none 0 0, .slice none 0 0]) ?_ 2 _ rfl; (with_reducible repeat (first | refine blk_drewN ?_ _ | refine blk_drew ?_ | refine blk_alloc ?_ _)); refine blk_put (cs := #[.int .i64 t317, .string (⟨#[]⟩ : ByteArray), .slice none 0 0, .slice none 0 0]) ?_ 1 _ rfl; (with_reducible repeat (first | refine blk_drewN ?_ _ | refine blk_drew ?_ | refine blk_alloc ?_ _)); refine blk_put (cs := #[.int .i64 0, .string (⟨#[]⟩ : ByteArray), .slice none 0 0, .slice none 0 0]) ?_ 0 _ rfl; (with_reducible repeat (first | refine blk_drewN ?_ _ | refine blk_drew ?_ | refine blk_alloc ?_ _)); exact BK327.out)) (below_size (by repeat (first | (with_reducible first | exact HB.out | apply below_alloc | apply pw_below_drewN | apply below_drew1 | refine below_set ?_ GE327.out) | exact HB.out)))); have n4_ := Aside0.mk (blk_below (g := gb327) (o := .cells #[.int .i64 t317, .string t318, .slice Ao18 t319.length co18, .slice Ao19 t322.length co19] 38 (0, 0)) (by (with_reducible repeat (first | refine blk_drewN ?_ _ | refine blk_drew ?_ | refine blk_alloc ?_ _)); refine blk_put (cs := #[.int .i64 t317, .string t318, .slice Ao18 t319.length co18, .slice none 0 0]) ?_ 3 _ rfl; (with_reducible repeat (first | refine blk_drewN ?_ _ | refine blk_drew ?_ | refine blk_alloc ?_ _)); refine blk_put (cs := #[.int .i64 t317, .string t318, .slice none 0 0, .slice none 0 0]) ?_ 2 _ rfl; (with_reducible repeat (first | refine blk_drewN ?_ _ | refine blk_drew ?_ | refine blk_alloc ?_ _)); refine blk_put (cs := #[.int .i64 t317, .string (⟨#[]⟩ : ByteArray), .slice none 0 0, .slice none 0 0]) ?_ 1 _ rfl; (with_reducible repeat (first | refine blk_drewN ?_ _ | refine blk_drew ?_ | refine blk_alloc ?_ _)); refine blk_put (cs := #[.int .i64 0, .string (⟨#[]⟩ : ByteArray), .slice none 0 0, .slice none 0 0]) ?_ 0 _ rfl; (with_reducible repeat (first | refine blk_drewN ?_ _ | refine blk_drew ?_ | refine blk_alloc ?_ _)); exact BK327.out) hb); have n5_ := Aside0.mk (below_step (by repeat (first | (with_reducible first | exact HB.out | apply below_alloc | apply pw_below_drewN | apply below_drew1 | refine below_set ?_ GE327.out) | exact HB.out)) hb); clear HO321; clear HO324; clear BK327; clear HB; have HO321 := n0_; have HO324 := n1_; have HO332 := n2_; have HO335 := n3_; have BK327 := n4_; have HB := n5_; clear n0_ n1_ n2_ n3_ n4_ n5_; (try clear hb); (try clear hb2); (try clear hk); (try clear hi); (try clear ho0); (try clear ho1)) | ((with_reducible refine gate_dst (N := 11) rfl ?_); refine box_event ?hg (N := 11) ?hd (cs := #[.int .i64 0, .string (⟨#[]⟩ : ByteArray), .slice none 0 0, .slice none 0 0]) (t := 38) ?hr ?_; (case hd => rfl); (case hg => rfl); (case hr => first | (go_simp; done) | (go_simp; rfl)); intro gb338 hg w21 hbox hb; have n0_ := Aside0.mk (Kd.R_below (by (with_reducible repeat (first | apply Kd.R_alloc | apply Kd.R_drewN | apply Kd.R_drew)); exact HO321.out) hb); have n1_ := Aside0.mk (Kd.R_below (Kd.R_elderB (by (with_reducible repeat (first | apply Kd.R_alloc | apply Kd.R_drewN | apply Kd.R_drew)); exact HO324.out) gb338 (Nat.le_of_eq hg.symm)) hb); have n2_ := Aside0.mk (Kd.R_below (by (with_reducible repeat (first | apply Kd.R_alloc | apply Kd.R_drewN | apply Kd.R_drew)); exact HO332.out) hb); have n3_ := Aside0.mk (Kd.R_below (Kd.R_elderB (by (with_reducible repeat (first | apply Kd.R_alloc | apply Kd.R_drewN | apply Kd.R_drew)); exact HO335.out) gb338 (Nat.le_of_eq hg.symm)) hb); have n4_ := Aside0.mk (blk_below (g := gb327) (o := .cells #[.int .i64 t317, .string t318, .slice Ao18 t319.length co18, .slice Ao19 t322.length co19] 38 (0, 0)) (by (with_reducible repeat (first | refine blk_drewN ?_ _ | refine blk_drew ?_ | refine blk_alloc ?_ _)); exact BK327.out) hb); have n5_ := Aside0.mk (below_step (by repeat (first | (with_reducible first | exact HB.out | apply below_alloc | apply pw_below_drewN | apply below_drew1 | refine below_set ?_ GE327.out) | exact HB.out)) hb); have n6_ := Aside0.mk (hbox); have n7_ := Aside0.mk ((by rw [hg]; exact (below_size (by repeat (first | (with_reducible first | exact HB.out | apply below_alloc | apply pw_below_drewN | apply below_drew1 | refine below_set ?_ GE327.out) | exact HB.out))) : w.heap.size ≤ gb338)); have n8_ := Aside0.mk ((by rw [hg]; exact (below_size (by repeat (first | (with_reducible first | exact HB.out | apply below_alloc | apply pw_below_drewN | apply below_drew1 | refine below_set ?_ GE327.out) | exact HB.out))) : w.heap.size ≤ gb338)); have n9_ := Aside0.mk ((by rw [hg]; exact Nat.ne_of_lt (blk_lt (g := gb327) (o := .cells #[.int .i64 t317, .string t318, .slice Ao18 t319.length co18, .slice Ao19 t322.length co19] 38 (0, 0)) (by (with_reducible repeat (first | refine blk_drewN ?_ _ | refine blk_drew ?_ | refine blk_alloc ?_ _)); exact BK327.out)) : gb327 ≠ gb338)); have n10_ := Aside0.mk ((by rw [hg]; exact Nat.ne_of_gt (blk_lt (g := gb327) (o := .cells #[.int .i64 t317, .string t318, .slice Ao18 t319.length co18, .slice Ao19 t322.length co19] 38 (0, 0)) (by (with_reducible repeat (first | refine blk_drewN ?_ _ | refine blk_drew ?_ | refine blk_alloc ?_ _)); exact BK327.out)) : gb338 ≠ gb327)); clear HO321; clear HO324; clear HO332; clear HO335; clear BK327; clear HB; have HO321 := n0_; have HO324 := n1_; have HO332 := n2_; have HO335 := n3_; have BK327 := n4_; have HB := n5_; have BK338 := n6_; have GW338 := n7_; have GE338 := n8_; have NB327_338 := n9_; have NB338_327 := n10_; clear n0_ n1_ n2_ n3_ n4_ n5_ n6_ n7_ n8_ n9_ n10_; clear hb hbox hg; have hnb22 := NB338_327.out; have hnc22 := NB327_338.out; have hcz23_0 : w21.cell? ⟨gb338, 0, none⟩ = some (.int .i64 0) := (blk_cell BK338.out 0).trans rfl; have hcz23_1 : w21.cell? ⟨gb338, 1, none⟩ = some (.string (⟨#[]⟩ : ByteArray)) := (blk_cell BK338.out 1).trans rfl; have hcz23_2 : w21.cell? ⟨gb338, 2, none⟩ = some (.slice none 0 0) := (blk_cell BK338.out 2).trans rfl; have hcz23_3 : w21.cell? ⟨gb338, 3, none⟩ = some (.slice none 0 0) := (blk_cell BK338.out 3).trans rfl; have hfz23_0 := blk_frozen BK338.out 0; have hfz23_1 := blk_frozen BK338.out 1; have hfz23_2 := blk_frozen BK338.out 2; have hfz23_3 := blk_frozen BK338.out 3; obtain ⟨Ao24, co24, eo24⟩ := Kd.R_slice HO332.out; subst eo24; obtain ⟨Ao25, co25, eo25⟩ := Kd.R_slice HO335.out; subst eo25) | ((with_reducible refine gate_callee (f := 17) rfl ?_); refine goesL_ (some 45) rfl rfl Tryd.func17 (by kernel_rfl) rfl #[.string (⟨#[49]⟩ : ByteArray), .int .i64 299] rfl (by (try simp only [List.map_toArray, List.map_cons, List.map_nil]); first | done | rfl | (simp only [List.length_drop, List.length_take]; rfl)) ?_; (with_reducible refine (impl_FjValueAt.calls k (⟨#[49]⟩ : ByteArray) 299 t339 t340 t341 t344 t347 true _ ?side1 ?side2 A9.out).mono ?_); (case side1 => repeat (first | exact Kd.C_below HRG0.out (by repeat (first | (with_reducible first | exact HB.out | apply below_alloc | apply pw_below_drewN | apply below_drew1 | refine below_set ?_ GE327.out | refine below_set ?_ GE338.out) | exact HB.out)) | exact HRG0.out | (with_reducible refine Kd.C_alloc ?_ _) | (with_reducible refine Kd.C_drewN ?_ _) | (with_reducible refine Kd.C_drew ?_))); (case side2 => repeat (first | exact Kd.C_below HRG1.out (by repeat (first | (with_reducible first | exact HB.out | apply below_alloc | apply pw_below_drewN | apply below_drew1 | refine below_set ?_ GE327.out | refine below_set ?_ GE338.out) | exact HB.out)) | exact HRG1.out | (with_reducible refine Kd.C_alloc ?_ _) | (with_reducible refine Kd.C_drewN ?_ _) | (with_reducible refine Kd.C_drew ?_))); rintro e w26 ⟨v342, v345, rfl, ho0, ho1, hb⟩; refine ⟨_, rfl, ?_⟩; have n0_ := Aside0.mk (Kd.R_elder' (by (with_reducible repeat (first | apply Kd.R_alloc | apply Kd.R_drewN | apply Kd.R_drew)); exact (Kd.R_mono (Kd.R_far (p := ⟨gb338, 3, none⟩) (Kd.R_far (p := ⟨gb338, 2, none⟩) (Kd.R_far (p := ⟨gb338, 1, none⟩) (Kd.R_far (p := ⟨gb338, 0, none⟩) (Kd.R_types HO321.out BK338.out (by decide)) (fun _ hk => hk.2) (.int .i64 t328)) (fun _ hk => hk.2) (.string t329)) (fun _ hk => hk.2) (.slice Ao24 t330.length co24)) (fun _ hk => hk.2) (.slice Ao25 t333.length co25)) (fun _ h_ => h_.1))) (Kd.R_base ho0) hb); have n1_ := Aside0.mk (Kd.R_mono (Kd.R_told (Kd.R_told (Kd.R_old (by (with_reducible repeat (first | apply Kd.R_alloc | apply Kd.R_drewN | apply Kd.R_drew)); exact (Kd.R_mono (Kd.R_far (p := ⟨gb338, 3, none⟩) (Kd.R_far (p := ⟨gb338, 2, none⟩) (Kd.R_far (p := ⟨gb338, 1, none⟩) (Kd.R_far (p := ⟨gb338, 0, none⟩) (Kd.R_mono HO324.out (fun k_ hk => (⟨hk, hk.2⟩ : _ ∧ k_ ≠ gb338))) (fun _ hk => hk.2) (.int .i64 t328)) (fun _ hk => hk.2) (.string t329)) (fun _ hk => hk.2) (.slice Ao24 t330.length co24)) (fun _ hk => hk.2) (.slice Ao25 t333.length co25)) (fun _ h_ => h_.1))) hb) (Kd.R_base ho0)) (Kd.R_base ho1)) (fun _ h_ => h_.1)); have n2_ := Aside0.mk (Kd.R_elder' (by (with_reducible repeat (first | apply Kd.R_alloc | apply Kd.R_drewN | apply Kd.R_drew)); exact (Kd.R_mono (Kd.R_far (p := ⟨gb338, 3, none⟩) (Kd.R_far (p := ⟨gb338, 2, none⟩) (Kd.R_far (p := ⟨gb338, 1, none⟩) (Kd.R_far (p := ⟨gb338, 0, none⟩) (Kd.R_types HO332.out BK338.out (by decide)) (fun _ hk => hk.2) (.int .i64 t328)) (fun _ hk => hk.2) (.string t329)) (fun _ hk => hk.2) (.slice Ao24 t330.length co24)) (fun _ hk => hk.2) (.slice Ao25 t333.length co25)) (fun _ h_ => h_.1))) (Kd.R_base ho0) hb); have n3_ := Aside0.mk (Kd.R_mono (Kd.R_told (Kd.R_told (Kd.R_old (by (with_reducible repeat (first | apply Kd.R_alloc | apply Kd.R_drewN | apply Kd.R_drew)); exact (Kd.R_mono (Kd.R_far (p := ⟨gb338, 3, none⟩) (Kd.R_far (p := ⟨gb338, 2, none⟩) (Kd.R_far (p := ⟨gb338, 1, none⟩) (Kd.R_far (p := ⟨gb338, 0, none⟩) (Kd.R_mono HO335.out (fun k_ hk => (⟨hk, hk.2⟩ : _ ∧ k_ ≠ gb338))) (fun _ hk => hk.2) (.int .i64 t328)) (fun _ hk => hk.2) (.string t329)) (fun _ hk => hk.2) (.slice Ao24 t330.length co24)) (fun _ hk => hk.2) (.slice Ao25 t333.length co25)) (fun _ h_ => h_.1))) hb) (Kd.R_base ho0)) (Kd.R_base ho1)) (fun _ h_ => h_.1)); have n4_ := Aside0.mk (Kd.R_lower (Kd.R_new' (Kd.R_new' ho0 (Kd.R_lt (by (with_reducible repeat (first | apply Kd.R_alloc | apply Kd.R_drewN | apply Kd.R_drew)); exact (Kd.R_mono (Kd.R_far (p := ⟨gb338, 3, none⟩) (Kd.R_far (p := ⟨gb338, 2, none⟩) (Kd.R_far (p := ⟨gb338, 1, none⟩) (Kd.R_far (p := ⟨gb338, 0, none⟩) (Kd.R_types HO321.out BK338.out (by decide)) (fun _ hk => hk.2) (.int .i64 t328)) (fun _ hk => hk.2) (.string t329)) (fun _ hk => hk.2) (.slice Ao24 t330.length co24)) (fun _ hk => hk.2) (.slice Ao25 t333.length co25)) (fun _ h_ => h_.1))))) (Kd.R_lt (by (with_reducible repeat (first | apply Kd.R_alloc | apply Kd.R_drewN | apply Kd.R_drew)); exact (Kd.R_mono (Kd.R_far (p := ⟨gb338, 3, none⟩) (Kd.R_far (p := ⟨gb338, 2, none⟩) (Kd.R_far (p := ⟨gb338, 1, none⟩) (Kd.R_far (p := ⟨gb338, 0, none⟩) (Kd.R_types HO332.out BK338.out (by decide)) (fun _ hk => hk.2) (.int .i64 t328)) (fun _ hk => hk.2) (.string t329)) (fun _ hk => hk.2) (.slice Ao24 t330.length co24)) (fun _ hk => hk.2) (.slice Ao25 t333.length co25)) (fun _ h_ => h_.1))))) (below_size (by repeat (first | (with_reducible first | exact HB.out | apply below_alloc | apply pw_below_drewN | apply below_drew1 | refine below_set ?_ GE327.out | refine below_set ?_ GE338.out) | exact HB.out)))); have n5_ := Aside0.mk (Kd.R_lower (Kd.R_newB (Kd.R_newB (Kd.R_new' (Kd.R_new' (Kd.R_new' (Kd.R_new' ho1 (Kd.R_lt (by (with_reducible repeat (first | apply Kd.R_alloc | apply Kd.R_drewN | apply Kd.R_drew)); exact (Kd.R_mono (Kd.R_far (p := ⟨gb338, 3, none⟩) (Kd.R_far (p := ⟨gb338, 2, none⟩) (Kd.R_far (p := ⟨gb338, 1, none⟩) (Kd.R_far (p := ⟨gb338, 0, none⟩) (Kd.R_types HO321.out BK338.out (by decide)) (fun _ hk => hk.2) (.int .i64 t328)) (fun _ hk => hk.2) (.string t329)) (fun _ hk => hk.2) (.slice Ao24 t330.length co24)) (fun _ hk => hk.2) (.slice Ao25 t333.length co25)) (fun _ h_ => h_.1))))) (Kd.R_lt (by (with_reducible repeat (first | apply Kd.R_alloc | apply Kd.R_drewN | apply Kd.R_drew)); exact (Kd.R_mono (Kd.R_far (p := ⟨gb338, 3, none⟩) (Kd.R_far (p := ⟨gb338, 2, none⟩) (Kd.R_far (p := ⟨gb338, 1, none⟩) (Kd.R_far (p := ⟨gb338, 0, none⟩) (Kd.R_mono HO324.out (fun k_ hk => (⟨hk, hk.2⟩ : _ ∧ k_ ≠ gb338))) (fun _ hk => hk.2) (.int .i64 t328)) (fun _ hk => hk.2) (.string t329)) (fun _ hk => hk.2) (.slice Ao24 t330.length co24)) (fun _ hk => hk.2) (.slice Ao25 t333.length co25)) (fun _ h_ => h_.1))))) (Kd.R_lt (by (with_reducible repeat (first | apply Kd.R_alloc | apply Kd.R_drewN | apply Kd.R_drew)); exact (Kd.R_mono (Kd.R_far (p := ⟨gb338, 3, none⟩) (Kd.R_far (p := ⟨gb338, 2, none⟩) (Kd.R_far (p := ⟨gb338, 1, none⟩) (Kd.R_far (p := ⟨gb338, 0, none⟩) (Kd.R_types HO332.out BK338.out (by decide)) (fun _ hk => hk.2) (.int .i64 t328)) (fun _ hk => hk.2) (.string t329)) (fun _ hk => hk.2) (.slice Ao24 t330.length co24)) (fun _ hk => hk.2) (.slice Ao25 t333.length co25)) (fun _ h_ => h_.1))))) (Kd.R_lt (by (with_reducible repeat (first | apply Kd.R_alloc | apply Kd.R_drewN | apply Kd.R_drew)); exact (Kd.R_mono (Kd.R_far (p := ⟨gb338, 3, none⟩) (Kd.R_far (p := ⟨gb338, 2, none⟩) (Kd.R_far (p := ⟨gb338, 1, none⟩) (Kd.R_far (p := ⟨gb338, 0, none⟩) (Kd.R_mono HO335.out (fun k_ hk => (⟨hk, hk.2⟩ : _ ∧ k_ ≠ gb338))) (fun _ hk => hk.2) (.int .i64 t328)) (fun _ hk => hk.2) (.string t329)) (fun _ hk => hk.2) (.slice Ao24 t330.length co24)) (fun _ hk => hk.2) (.slice Ao25 t333.length co25)) (fun _ h_ => h_.1))))) (g := gb327) (o := .cells #[.int .i64 t317, .string t318, .slice Ao18 t319.length co18, .slice Ao19 t322.length co19] 38 (0, 0)) (by (with_reducible repeat (first | refine blk_drewN ?_ _ | refine blk_drew ?_ | refine blk_alloc ?_ _)); refine blk_far ?_ NB327_338.out _; (with_reducible repeat (first | refine blk_drewN ?_ _ | refine blk_drew ?_ | refine blk_alloc ?_ _)); refine blk_far ?_ NB327_338.out _; (with_reducible repeat (first | refine blk_drewN ?_ _ | refine blk_drew ?_ | refine blk_alloc ?_ _)); refine blk_far ?_ NB327_338.out _; (with_reducible repeat (first | refine blk_drewN ?_ _ | refine blk_drew ?_ | refine blk_alloc ?_ _)); refine blk_far ?_ NB327_338.out _; (with_reducible repeat (first | refine blk_drewN ?_ _ | refine blk_drew ?_ | refine blk_alloc ?_ _)); exact BK327.out)) (g := gb338) (o := .cells #[.int .i64 t328, .string t329, .slice Ao24 t330.length co24, .slice Ao25 t333.length co25] 38 (0, 0)) (by (with_reducible repeat (first | refine blk_drewN ?_ _ | refine blk_drew ?_ | refine blk_alloc ?_ _)); refine blk_put (cs := #[.int .i64 t328, .string t329, .slice Ao24 t330.length co24, .slice none 0 0]) ?_ 3 _ rfl; (with_reducible repeat (first | refine blk_drewN ?_ _ | refine blk_drew ?_ | refine blk_alloc ?_ _)); refine blk_put (cs := #[.int .i64 t328, .string t329, .slice none 0 0, .slice none 0 0]) ?_ 2 _ rfl; (with_reducible repeat (first | refine blk_drewN ?_ _ | refine blk_drew ?_ | refine blk_alloc ?_ _)); refine blk_put (cs := #[.int .i64 t328, .string (⟨#[]⟩ : ByteArray), .slice none 0 0, .slice none 0 0]) ?_ 1 _ rfl; (with_reducible repeat (first | refine blk_drewN ?_ _ | refine blk_drew ?_ | refine blk_alloc ?_ _)); refine blk_put (cs := #[.int .i64 0, .string (⟨#[]⟩ : ByteArray), .slice none 0 0, .slice none 0 0]) ?_ 0 _ rfl; (with_reducible repeat (first | refine blk_drewN ?_ _ | refine blk_drew ?_ | refine blk_alloc ?_ _)); exact BK338.out)) (below_size (by repeat (first | (with_reducible first | exact HB.out | apply below_alloc | apply pw_below_drewN | apply below_drew1 | refine below_set ?_ GE327.out | refine below_set ?_ GE338.out) | exact HB.out)))); have n6_ := Aside0.mk (blk_below (g := gb327) (o := .cells #[.int .i64 t317, .string t318, .slice Ao18 t319.length co18, .slice Ao19 t322.length co19] 38 (0, 0)) (by (with_reducible repeat (first | refine blk_drewN ?_ _ | refine blk_drew ?_ | refine blk_alloc ?_ _)); refine blk_far ?_ NB327_338.out _; (with_reducible repeat (first | refine blk_drewN ?_ _ | refine blk_drew ?_ | refine blk_alloc ?_ _)); refine blk_far ?_ NB327_338.out _; (with_reducible repeat (first | refine blk_drewN ?_ _ | refine blk_drew ?_ | refine blk_alloc ?_ _)); refine blk_far ?_ NB327_338.out _; (with_reducible repeat (first | refine blk_drewN ?_ _ | refine blk_drew ?_ | refine blk_alloc ?_ _)); refine blk_far ?_ NB327_338.out _; (with_reducible repeat (first | refine blk_drewN ?_ _ | refine blk_drew ?_ | refine blk_alloc ?_ _)); exact BK327.out) hb); have n7_ := Aside0.mk (blk_below (g := gb338) (o := .cells #[.int .i64 t328, .string t329, .slice Ao24 t330.length co24, .slice Ao25 t333.length co25] 38 (0, 0)) (by (with_reducible repeat (first | refine blk_drewN ?_ _ | refine blk_drew ?_ | refine blk_alloc ?_ _)); refine blk_put (cs := #[.int .i64 t328, .string t329, .slice Ao24 t330.length co24, .slice none 0 0]) ?_ 3 _ rfl; (with_reducible repeat (first | refine blk_drewN ?_ _ | refine blk_drew ?_ | refine blk_alloc ?_ _)); refine blk_put (cs := #[.int .i64 t328, .string t329, .slice none 0 0, .slice none 0 0]) ?_ 2 _ rfl; (with_reducible repeat (first | refine blk_drewN ?_ _ | refine blk_drew ?_ | refine blk_alloc ?_ _)); refine blk_put (cs := #[.int .i64 t328, .string (⟨#[]⟩ : ByteArray), .slice none 0 0, .slice none 0 0]) ?_ 1 _ rfl; (with_reducible repeat (first | refine blk_drewN ?_ _ | refine blk_drew ?_ | refine blk_alloc ?_ _)); refine blk_put (cs := #[.int .i64 0, .string (⟨#[]⟩ : ByteArray), .slice none 0 0, .slice none 0 0]) ?_ 0 _ rfl; (with_reducible repeat (first | refine blk_drewN ?_ _ | refine blk_drew ?_ | refine blk_alloc ?_ _)); exact BK338.out) hb); have n8_ := Aside0.mk (below_step (by repeat (first | (with_reducible first | exact HB.out | apply below_alloc | apply pw_below_drewN | apply below_drew1 | refine below_set ?_ GE327.out | refine below_set ?_ GE338.out) | exact HB.out)) hb); clear HO321; clear HO324; clear HO332; clear HO335; clear BK327; clear BK338; clear HB; have HO321 := n0_; have HO324 := n1_; have HO332 := n2_; have HO335 := n3_; have HO343 := n4_; have HO346 := n5_; have BK327 := n6_; have BK338 := n7_; have HB := n8_; clear n0_ n1_ n2_ n3_ n4_ n5_ n6_ n7_ n8_; (try clear hb); (try clear hb2); (try clear hk); (try clear hi); (try clear ho0); (try clear ho1)) | ((with_reducible refine gate_dst (N := 14) rfl ?_); refine box_event ?hg (N := 14) ?hd (cs := #[.int .i64 0, .string (⟨#[]⟩ : ByteArray), .slice none 0 0, .slice none 0 0]) (t := 38) ?hr ?_; (case hd => rfl); (case hg => rfl); (case hr => first | (go_simp; done) | (go_simp; rfl)); intro gb349 hg w27 hbox hb; have n0_ := Aside0.mk (Kd.R_below (by (with_reducible repeat (first | apply Kd.R_alloc | apply Kd.R_drewN | apply Kd.R_drew)); exact HO321.out) hb); have n1_ := Aside0.mk (Kd.R_below (Kd.R_elderB (by (with_reducible repeat (first | apply Kd.R_alloc | apply Kd.R_drewN | apply Kd.R_drew)); exact HO324.out) gb349 (Nat.le_of_eq hg.symm)) hb); have n2_ := Aside0.mk (Kd.R_below (by (with_reducible repeat (first | apply Kd.R_alloc | apply Kd.R_drewN | apply Kd.R_drew)); exact HO332.out) hb); have n3_ := Aside0.mk (Kd.R_below (Kd.R_elderB (by (with_reducible repeat (first | apply Kd.R_alloc | apply Kd.R_drewN | apply Kd.R_drew)); exact HO335.out) gb349 (Nat.le_of_eq hg.symm)) hb); have n4_ := Aside0.mk (Kd.R_below (by (with_reducible repeat (first | apply Kd.R_alloc | apply Kd.R_drewN | apply Kd.R_drew)); exact HO343.out) hb); have n5_ := Aside0.mk (Kd.R_below (Kd.R_elderB (by (with_reducible repeat (first | apply Kd.R_alloc | apply Kd.R_drewN | apply Kd.R_drew)); exact HO346.out) gb349 (Nat.le_of_eq hg.symm)) hb); have n6_ := Aside0.mk (blk_below (g := gb327) (o := .cells #[.int .i64 t317, .string t318, .slice Ao18 t319.length co18, .slice Ao19 t322.length co19] 38 (0, 0)) (by (with_reducible repeat (first | refine blk_drewN ?_ _ | refine blk_drew ?_ | refine blk_alloc ?_ _)); exact BK327.out) hb); have n7_ := Aside0.mk (blk_below (g := gb338) (o := .cells #[.int .i64 t328, .string t329, .slice Ao24 t330.length co24, .slice Ao25 t333.length co25] 38 (0, 0)) (by (with_reducible repeat (first | refine blk_drewN ?_ _ | refine blk_drew ?_ | refine blk_alloc ?_ _)); exact BK338.out) hb); have n8_ := Aside0.mk (below_step (by repeat (first | (with_reducible first | exact HB.out | apply below_alloc | apply pw_below_drewN | apply below_drew1 | refine below_set ?_ GE327.out | refine below_set ?_ GE338.out) | exact HB.out)) hb); have n9_ := Aside0.mk (hbox); have n10_ := Aside0.mk ((by rw [hg]; exact (below_size (by repeat (first | (with_reducible first | exact HB.out | apply below_alloc | apply pw_below_drewN | apply below_drew1 | refine below_set ?_ GE327.out | refine below_set ?_ GE338.out) | exact HB.out))) : w.heap.size ≤ gb349)); have n11_ := Aside0.mk ((by rw [hg]; exact (below_size (by repeat (first | (with_reducible first | exact HB.out | apply below_alloc | apply pw_below_drewN | apply below_drew1 | refine below_set ?_ GE327.out | refine below_set ?_ GE338.out) | exact HB.out))) : w.heap.size ≤ gb349)); have n12_ := Aside0.mk ((by rw [hg]; exact Nat.ne_of_lt (blk_lt (g := gb327) (o := .cells #[.int .i64 t317, .string t318, .slice Ao18 t319.length co18, .slice Ao19 t322.length co19] 38 (0, 0)) (by (with_reducible repeat (first | refine blk_drewN ?_ _ | refine blk_drew ?_ | refine blk_alloc ?_ _)); exact BK327.out)) : gb327 ≠ gb349)); have n13_ := Aside0.mk ((by rw [hg]; exact Nat.ne_of_gt (blk_lt (g := gb327) (o := .cells #[.int .i64 t317, .string t318, .slice Ao18 t319.length co18, .slice Ao19 t322.length co19] 38 (0, 0)) (by (with_reducible repeat (first | refine blk_drewN ?_ _ | refine blk_drew ?_ | refine blk_alloc ?_ _)); exact BK327.out)) : gb349 ≠ gb327)); have n14_ := Aside0.mk ((by rw [hg]; exact Nat.ne_of_lt (blk_lt (g := gb338) (o := .cells #[.int .i64 t328, .string t329, .slice Ao24 t330.length co24, .slice Ao25 t333.length co25] 38 (0, 0)) (by (with_reducible repeat (first | refine blk_drewN ?_ _ | refine blk_drew ?_ | refine blk_alloc ?_ _)); exact BK338.out)) : gb338 ≠ gb349)); have n15_ := Aside0.mk ((by rw [hg]; exact Nat.ne_of_gt (blk_lt (g := gb338) (o := .cells #[.int .i64 t328, .string t329, .slice Ao24 t330.length co24, .slice Ao25 t333.length co25] 38 (0, 0)) (by (with_reducible repeat (first | refine blk_drewN ?_ _ | refine blk_drew ?_ | refine blk_alloc ?_ _)); exact BK338.out)) : gb349 ≠ gb338)); clear HO321; clear HO324; clear HO332; clear HO335; clear HO343; clear HO346; clear BK327; clear BK338; clear HB; have HO321 := n0_; have HO324 := n1_; have HO332 := n2_; have HO335 := n3_; have HO343 := n4_; have HO346 := n5_; have BK327 := n6_; have BK338 := n7_; have HB := n8_; have BK349 := n9_; have GW349 := n10_; have GE349 := n11_; have NB327_349 := n12_; have NB349_327 := n13_; have NB338_349 := n14_; have NB349_338 := n15_; clear n0_ n1_ n2_ n3_ n4_ n5_ n6_ n7_ n8_ n9_ n10_ n11_ n12_ n13_ n14_ n15_; clear hb hbox hg; have hnb28 := NB349_327.out; have hnc28 := NB327_349.out; have hnb29 := NB349_338.out; have hnc29 := NB338_349.out; have hcz30_0 : w27.cell? ⟨gb349, 0, none⟩ = some (.int .i64 0) := (blk_cell BK349.out 0).trans rfl; have hcz30_1 : w27.cell? ⟨gb349, 1, none⟩ = some (.string (⟨#[]⟩ : ByteArray)) := (blk_cell BK349.out 1).trans rfl; have hcz30_2 : w27.cell? ⟨gb349, 2, none⟩ = some (.slice none 0 0) := (blk_cell BK349.out 2).trans rfl; have hcz30_3 : w27.cell? ⟨gb349, 3, none⟩ = some (.slice none 0 0) := (blk_cell BK349.out 3).trans rfl; have hfz30_0 := blk_frozen BK349.out 0; have hfz30_1 := blk_frozen BK349.out 1; have hfz30_2 := blk_frozen BK349.out 2; have hfz30_3 := blk_frozen BK349.out 3; obtain ⟨Ao31, co31, eo31⟩ := Kd.R_slice HO343.out; subst eo31; obtain ⟨Ao32, co32, eo32⟩ := Kd.R_slice HO346.out; subst eo32; have hcz33_0 : w27.cell? ⟨gb327, 0, none⟩ = some (.int .i64 t317) := (blk_cell BK327.out 0).trans rfl; have hcz33_1 : w27.cell? ⟨gb327, 1, none⟩ = some (.string t318) := (blk_cell BK327.out 1).trans rfl; have hcz33_2 : w27.cell? ⟨gb327, 2, none⟩ = some (.slice Ao18 t319.length co18) := (blk_cell BK327.out 2).trans rfl; have hcz33_3 : w27.cell? ⟨gb327, 3, none⟩ = some (.slice Ao19 t322.length co19) := (blk_cell BK327.out 3).trans rfl; have hfz33_0 := blk_frozen BK327.out 0; have hfz33_1 := blk_frozen BK327.out 1; have hfz33_2 := blk_frozen BK327.out 2; have hfz33_3 := blk_frozen BK327.out 3; have hcz34_0 : w27.cell? ⟨gb338, 0, none⟩ = some (.int .i64 t328) := (blk_cell BK338.out 0).trans rfl; have hcz34_1 : w27.cell? ⟨gb338, 1, none⟩ = some (.string t329) := (blk_cell BK338.out 1).trans rfl; have hcz34_2 : w27.cell? ⟨gb338, 2, none⟩ = some (.slice Ao24 t330.length co24) := (blk_cell BK338.out 2).trans rfl; have hcz34_3 : w27.cell? ⟨gb338, 3, none⟩ = some (.slice Ao25 t333.length co25) := (blk_cell BK338.out 3).trans rfl; have hfz34_0 := blk_frozen BK338.out 0; have hfz34_1 := blk_frozen BK338.out 1; have hfz34_2 := blk_frozen BK338.out 2; have hfz34_3 := blk_frozen BK338.out 3) | (go_at_call 18; (with_reducible refine (spec_Same.calls k t317 t318 _ _ t319 _ _ t322 t328 t329 _ _ t330 _ _ t333 t350 _ ?side1 ?side2 ?side3 ?side4 ?side5 ?side6 ?side7 ?side8 A14.out).mono ?_); (case side1 => refine (Kd.R_reads' (e := 9) (base := w.heap.size) (ok := fun k_ => ((True ∧ some k_ ≠ (.slice Ao24 t330.length co24 : Value).ownBlock) ∧ some k_ ≠ (.slice Ao31 t341.length co31 : Value).ownBlock)) (n := t319.length) (c := co18) ?_).2.2; exact (by (with_reducible repeat (first | apply Kd.R_alloc | apply Kd.R_drewN | apply Kd.R_drew)); exact (Kd.R_mono (Kd.R_far (p := ⟨gb349, 3, none⟩) (Kd.R_far (p := ⟨gb349, 2, none⟩) (Kd.R_far (p := ⟨gb349, 1, none⟩) (Kd.R_far (p := ⟨gb349, 0, none⟩) (Kd.R_types HO321.out BK349.out (by decide)) (fun _ hk => hk.2) (.int .i64 t339)) (fun _ hk => hk.2) (.string t340)) (fun _ hk => hk.2) (.slice Ao31 t341.length co31)) (fun _ hk => hk.2) (.slice Ao32 t344.length co32)) (fun _ h_ => h_.1)))); (case side2 => exact (Kd.R_reads' HO321.out).2.1); (case side3 => refine (Kd.R_reads' (e := 38) (base := w.heap.size) (ok := fun k_ => (((((((some k_ ≠ (.slice Ao18 t319.length co18 : Value).ownBlock ∧ k_ ≠ gb327) ∧ some k_ ≠ (.slice Ao24 t330.length co24 : Value).ownBlock) ∧ some k_ ≠ (.slice Ao25 t333.length co25 : Value).ownBlock) ∧ k_ ≠ gb338) ∧ some k_ ≠ (.slice Ao31 t341.length co31 : Value).ownBlock) ∧ some k_ ≠ (.slice Ao32 t344.length co32 : Value).ownBlock) ∧ k_ ≠ gb349)) (n := t322.length) (c := co19) ?_).2.2; exact (by (with_reducible repeat (first | apply Kd.R_alloc | apply Kd.R_drewN | apply Kd.R_drew)); exact (Kd.R_mono (Kd.R_far (p := ⟨gb349, 3, none⟩) (Kd.R_far (p := ⟨gb349, 2, none⟩) (Kd.R_far (p := ⟨gb349, 1, none⟩) (Kd.R_far (p := ⟨gb349, 0, none⟩) (Kd.R_mono HO324.out (fun k_ hk => (⟨hk, hk.2⟩ : _ ∧ k_ ≠ gb349))) (fun _ hk => hk.2) (.int .i64 t339)) (fun _ hk => hk.2) (.string t340)) (fun _ hk => hk.2) (.slice Ao31 t341.length co31)) (fun _ hk => hk.2) (.slice Ao32 t344.length co32)) (fun _ h_ => h_.1)))); (case side4 => exact (Kd.R_reads' HO324.out).2.1); (case side5 => refine (Kd.R_reads' (e := 9) (base := w.heap.size) (ok := fun k_ => ((True ∧ some k_ ≠ (.slice Ao18 t319.length co18 : Value).ownBlock) ∧ some k_ ≠ (.slice Ao31 t341.length co31 : Value).ownBlock)) (n := t330.length) (c := co24) ?_).2.2; exact (by (with_reducible repeat (first | apply Kd.R_alloc | apply Kd.R_drewN | apply Kd.R_drew)); exact (Kd.R_mono (Kd.R_far (p := ⟨gb349, 3, none⟩) (Kd.R_far (p := ⟨gb349, 2, none⟩) (Kd.R_far (p := ⟨gb349, 1, none⟩) (Kd.R_far (p := ⟨gb349, 0, none⟩) (Kd.R_types HO332.out BK349.out (by decide)) (fun _ hk => hk.2) (.int .i64 t339)) (fun _ hk => hk.2) (.string t340)) (fun _ hk => hk.2) (.slice Ao31 t341.length co31)) (fun _ hk => hk.2) (.slice Ao32 t344.length co32)) (fun _ h_ => h_.1)))); (case side6 => exact (Kd.R_reads' HO332.out).2.1); (case side7 => refine (Kd.R_reads' (e := 38) (base := w.heap.size) (ok := fun k_ => (((((((some k_ ≠ (.slice Ao24 t330.length co24 : Value).ownBlock ∧ some k_ ≠ (.slice Ao18 t319.length co18 : Value).ownBlock) ∧ some k_ ≠ (.slice Ao19 t322.length co19 : Value).ownBlock) ∧ k_ ≠ gb327) ∧ k_ ≠ gb338) ∧ some k_ ≠ (.slice Ao31 t341.length co31 : Value).ownBlock) ∧ some k_ ≠ (.slice Ao32 t344.length co32 : Value).ownBlock) ∧ k_ ≠ gb349)) (n := t333.length) (c := co25) ?_).2.2; exact (by (with_reducible repeat (first | apply Kd.R_alloc | apply Kd.R_drewN | apply Kd.R_drew)); exact (Kd.R_mono (Kd.R_far (p := ⟨gb349, 3, none⟩) (Kd.R_far (p := ⟨gb349, 2, none⟩) (Kd.R_far (p := ⟨gb349, 1, none⟩) (Kd.R_far (p := ⟨gb349, 0, none⟩) (Kd.R_mono HO335.out (fun k_ hk => (⟨hk, hk.2⟩ : _ ∧ k_ ≠ gb349))) (fun _ hk => hk.2) (.int .i64 t339)) (fun _ hk => hk.2) (.string t340)) (fun _ hk => hk.2) (.slice Ao31 t341.length co31)) (fun _ hk => hk.2) (.slice Ao32 t344.length co32)) (fun _ h_ => h_.1)))); (case side8 => exact (Kd.R_reads' HO335.out).2.1); rintro e w35 ⟨rfl, hb⟩; have n0_ := Aside0.mk (Kd.R_below (by (with_reducible repeat (first | apply Kd.R_alloc | apply Kd.R_drewN | apply Kd.R_drew)); exact (Kd.R_mono (Kd.R_far (p := ⟨gb349, 3, none⟩) (Kd.R_far (p := ⟨gb349, 2, none⟩) (Kd.R_far (p := ⟨gb349, 1, none⟩) (Kd.R_far (p := ⟨gb349, 0, none⟩) (Kd.R_types HO321.out BK349.out (by decide)) (fun _ hk => hk.2) (.int .i64 t339)) (fun _ hk => hk.2) (.string t340)) (fun _ hk => hk.2) (.slice Ao31 t341.length co31)) (fun _ hk => hk.2) (.slice Ao32 t344.length co32)) (fun _ h_ => h_.1))) hb); have n1_ := Aside0.mk (Kd.R_below (by (with_reducible repeat (first | apply Kd.R_alloc | apply Kd.R_drewN | apply Kd.R_drew)); exact (Kd.R_mono (Kd.R_far (p := ⟨gb349, 3, none⟩) (Kd.R_far (p := ⟨gb349, 2, none⟩) (Kd.R_far (p := ⟨gb349, 1, none⟩) (Kd.R_far (p := ⟨gb349, 0, none⟩) (Kd.R_mono HO324.out (fun k_ hk => (⟨hk, hk.2⟩ : _ ∧ k_ ≠ gb349))) (fun _ hk => hk.2) (.int .i64 t339)) (fun _ hk => hk.2) (.string t340)) (fun _ hk => hk.2) (.slice Ao31 t341.length co31)) (fun _ hk => hk.2) (.slice Ao32 t344.length co32)) (fun _ h_ => h_.1))) hb); have n2_ := Aside0.mk (Kd.R_below (by (with_reducible repeat (first | apply Kd.R_alloc | apply Kd.R_drewN | apply Kd.R_drew)); exact (Kd.R_mono (Kd.R_far (p := ⟨gb349, 3, none⟩) (Kd.R_far (p := ⟨gb349, 2, none⟩) (Kd.R_far (p := ⟨gb349, 1, none⟩) (Kd.R_far (p := ⟨gb349, 0, none⟩) (Kd.R_types HO332.out BK349.out (by decide)) (fun _ hk => hk.2) (.int .i64 t339)) (fun _ hk => hk.2) (.string t340)) (fun _ hk => hk.2) (.slice Ao31 t341.length co31)) (fun _ hk => hk.2) (.slice Ao32 t344.length co32)) (fun _ h_ => h_.1))) hb); have n3_ := Aside0.mk (Kd.R_below (by (with_reducible repeat (first | apply Kd.R_alloc | apply Kd.R_drewN | apply Kd.R_drew)); exact (Kd.R_mono (Kd.R_far (p := ⟨gb349, 3, none⟩) (Kd.R_far (p := ⟨gb349, 2, none⟩) (Kd.R_far (p := ⟨gb349, 1, none⟩) (Kd.R_far (p := ⟨gb349, 0, none⟩) (Kd.R_mono HO335.out (fun k_ hk => (⟨hk, hk.2⟩ : _ ∧ k_ ≠ gb349))) (fun _ hk => hk.2) (.int .i64 t339)) (fun _ hk => hk.2) (.string t340)) (fun _ hk => hk.2) (.slice Ao31 t341.length co31)) (fun _ hk => hk.2) (.slice Ao32 t344.length co32)) (fun _ h_ => h_.1))) hb); have n4_ := Aside0.mk (Kd.R_below (by (with_reducible repeat (first | apply Kd.R_alloc | apply Kd.R_drewN | apply Kd.R_drew)); exact (Kd.R_mono (Kd.R_far (p := ⟨gb349, 3, none⟩) (Kd.R_far (p := ⟨gb349, 2, none⟩) (Kd.R_far (p := ⟨gb349, 1, none⟩) (Kd.R_far (p := ⟨gb349, 0, none⟩) (Kd.R_types HO343.out BK349.out (by decide)) (fun _ hk => hk.2) (.int .i64 t339)) (fun _ hk => hk.2) (.string t340)) (fun _ hk => hk.2) (.slice Ao31 t341.length co31)) (fun _ hk => hk.2) (.slice Ao32 t344.length co32)) (fun _ h_ => h_.1))) hb); have n5_ := Aside0.mk (Kd.R_below (by (with_reducible repeat (first | apply Kd.R_alloc | apply Kd.R_drewN | apply Kd.R_drew)); exact (Kd.R_mono (Kd.R_far (p := ⟨gb349, 3, none⟩) (Kd.R_far (p := ⟨gb349, 2, none⟩) (Kd.R_far (p := ⟨gb349, 1, none⟩) (Kd.R_far (p := ⟨gb349, 0, none⟩) (Kd.R_mono HO346.out (fun k_ hk => (⟨hk, hk.2⟩ : _ ∧ k_ ≠ gb349))) (fun _ hk => hk.2) (.int .i64 t339)) (fun _ hk => hk.2) (.string t340)) (fun _ hk => hk.2) (.slice Ao31 t341.length co31)) (fun _ hk => hk.2) (.slice Ao32 t344.length co32)) (fun _ h_ => h_.1))) hb); have n6_ := Aside0.mk (blk_below (g := gb327) (o := .cells #[.int .i64 t317, .string t318, .slice Ao18 t319.length co18, .slice Ao19 t322.length co19] 38 (0, 0)) (by (with_reducible repeat (first | refine blk_drewN ?_ _ | refine blk_drew ?_ | refine blk_alloc ?_ _)); refine blk_far ?_ NB327_349.out _; (with_reducible repeat (first | refine blk_drewN ?_ _ | refine blk_drew ?_ | refine blk_alloc ?_ _)); refine blk_far ?_ NB327_349.out _; (with_reducible repeat (first | refine blk_drewN ?_ _ | refine blk_drew ?_ | refine blk_alloc ?_ _)); refine blk_far ?_ NB327_349.out _; (with_reducible repeat (first | refine blk_drewN ?_ _ | refine blk_drew ?_ | refine blk_alloc ?_ _)); refine blk_far ?_ NB327_349.out _; (with_reducible repeat (first | refine blk_drewN ?_ _ | refine blk_drew ?_ | refine blk_alloc ?_ _)); exact BK327.out) hb); have n7_ := Aside0.mk (blk_below (g := gb338) (o := .cells #[.int .i64 t328, .string t329, .slice Ao24 t330.length co24, .slice Ao25 t333.length co25] 38 (0, 0)) (by (with_reducible repeat (first | refine blk_drewN ?_ _ | refine blk_drew ?_ | refine blk_alloc ?_ _)); refine blk_far ?_ NB338_349.out _; (with_reducible repeat (first | refine blk_drewN ?_ _ | refine blk_drew ?_ | refine blk_alloc ?_ _)); refine blk_far ?_ NB338_349.out _; (with_reducible repeat (first | refine blk_drewN ?_ _ | refine blk_drew ?_ | refine blk_alloc ?_ _)); refine blk_far ?_ NB338_349.out _; (with_reducible repeat (first | refine blk_drewN ?_ _ | refine blk_drew ?_ | refine blk_alloc ?_ _)); refine blk_far ?_ NB338_349.out _; (with_reducible repeat (first | refine blk_drewN ?_ _ | refine blk_drew ?_ | refine blk_alloc ?_ _)); exact BK338.out) hb); have n8_ := Aside0.mk (blk_below (g := gb349) (o := .cells #[.int .i64 t339, .string t340, .slice Ao31 t341.length co31, .slice Ao32 t344.length co32] 38 (0, 0)) (by (with_reducible repeat (first | refine blk_drewN ?_ _ | refine blk_drew ?_ | refine blk_alloc ?_ _)); refine blk_put (cs := #[.int .i64 t339, .string t340, .slice Ao31 t341.length co31, .slice none 0 0]) ?_ 3 _ rfl; (with_reducible repeat (first | refine blk_drewN ?_ _ | refine blk_drew ?_ | refine blk_alloc ?_ _)); refine blk_put (cs := #[.int .i64 t339, .string t340, .slice none 0 0, .slice none 0 0]) ?_ 2 _ rfl; (with_reducible repeat (first | refine blk_drewN ?_ _ | refine blk_drew ?_ | refine blk_alloc ?_ _)); refine blk_put (cs := #[.int .i64 t339, .string (⟨#[]⟩ : ByteArray), .slice none 0 0, .slice none 0 0]) ?_ 1 _ rfl; (with_reducible repeat (first | refine blk_drewN ?_ _ | refine blk_drew ?_ | refine blk_alloc ?_ _)); refine blk_put (cs := #[.int .i64 0, .string (⟨#[]⟩ : ByteArray), .slice none 0 0, .slice none 0 0]) ?_ 0 _ rfl; (with_reducible repeat (first | refine blk_drewN ?_ _ | refine blk_drew ?_ | refine blk_alloc ?_ _)); exact BK349.out) hb); have n9_ := Aside0.mk (below_step (by repeat (first | (with_reducible first | exact HB.out | apply below_alloc | apply pw_below_drewN | apply below_drew1 | refine below_set ?_ GE327.out | refine below_set ?_ GE338.out | refine below_set ?_ GE349.out) | exact HB.out)) hb); clear HO321; clear HO324; clear HO332; clear HO335; clear HO343; clear HO346; clear BK327; clear BK338; clear BK349; clear HB; have HO321 := n0_; have HO324 := n1_; have HO332 := n2_; have HO335 := n3_; have HO343 := n4_; have HO346 := n5_; have BK327 := n6_; have BK338 := n7_; have BK349 := n8_; have HB := n9_; clear n0_ n1_ n2_ n3_ n4_ n5_ n6_ n7_ n8_ n9_; (try clear hb); (try clear hb2); (try clear hk); (try clear hi)))
     go_ret
     exact ⟨by first | rfl | (simp [errW_none, errW_some] <;> rfl) | (simp [*, errW_none, errW_some] <;> rfl) | (simp [errW_none, errW_some] <;> exact ⟨rfl, rfl⟩) | (simp [*, errW_none, errW_some] <;> exact ⟨rfl, rfl⟩), by repeat (first | (with_reducible first | exact HB.out | apply below_alloc | apply pw_below_drewN | apply below_drew1 | refine below_set ?_ GE327.out | refine below_set ?_ GE338.out | refine below_set ?_ GE349.out) | exact HB.out)⟩
    rw [if_neg c13] at H
    have c13b0 : (t325.toList == t336.toList) = false := beq_eq_false_iff_ne.mpr c13
    have c13b1 : (t325.toList != t336.toList) = true := bne_iff_ne.mpr c13
    obtain rfl := Option.some.inj H
    go_enter Tryd.func6, Tryd.ntmps6
    go_wp2_with (first | ((with_reducible refine gate_callee (f := 17) rfl ?_); refine goesL_ (some 29) rfl rfl Tryd.func17 (by kernel_rfl) rfl #[.string a0, .int .i64 (Int.tmod (wrap64 (a1)) 300)] rfl (by (try simp only [List.map_toArray, List.map_cons, List.map_nil]); first | done | rfl | (simp only [List.length_drop, List.length_take]; rfl)) ?_; (with_reducible refine (impl_FjValueAt.calls k a0 (Int.tmod (wrap64 (a1)) 300) t317 t318 t319 t322 t325 true _ ?side1 ?side2 A6.out).mono ?_); (case side1 => repeat (first | exact Kd.C_below HRG0.out (by repeat (first | (with_reducible first | exact HB.out | apply below_alloc | apply pw_below_drewN | apply below_drew1) | exact HB.out)) | exact HRG0.out | (with_reducible refine Kd.C_alloc ?_ _) | (with_reducible refine Kd.C_drewN ?_ _) | (with_reducible refine Kd.C_drew ?_))); (case side2 => repeat (first | exact Kd.C_below HRG1.out (by repeat (first | (with_reducible first | exact HB.out | apply below_alloc | apply pw_below_drewN | apply below_drew1) | exact HB.out)) | exact HRG1.out | (with_reducible refine Kd.C_alloc ?_ _) | (with_reducible refine Kd.C_drewN ?_ _) | (with_reducible refine Kd.C_drew ?_))); rintro e w36 ⟨v320, v323, rfl, ho0, ho1, hb⟩; refine ⟨_, rfl, ?_⟩; have n0_ := Aside0.mk (Kd.R_lower ho0 (below_size (by repeat (first | (with_reducible first | exact HB.out | apply below_alloc | apply pw_below_drewN | apply below_drew1) | exact HB.out)))); have n1_ := Aside0.mk (Kd.R_lower ho1 (below_size (by repeat (first | (with_reducible first | exact HB.out | apply below_alloc | apply pw_below_drewN | apply below_drew1) | exact HB.out)))); have n2_ := Aside0.mk (below_step (by repeat (first | (with_reducible first | exact HB.out | apply below_alloc | apply pw_below_drewN | apply below_drew1) | exact HB.out)) hb); clear HB; have HO321 := n0_; have HO324 := n1_; have HB := n2_; clear n0_ n1_ n2_; (try clear hb); (try clear hb2); (try clear hk); (try clear hi); (try clear ho0); (try clear ho1)) | ((with_reducible refine gate_dst (N := 8) rfl ?_); refine box_event ?hg (N := 8) ?hd (cs := #[.int .i64 0, .string (⟨#[]⟩ : ByteArray), .slice none 0 0, .slice none 0 0]) (t := 38) ?hr ?_; (case hd => rfl); (case hg => rfl); (case hr => first | (go_simp; done) | (go_simp; rfl)); intro gb327 hg w37 hbox hb; have n0_ := Aside0.mk (Kd.R_below (by (with_reducible repeat (first | apply Kd.R_alloc | apply Kd.R_drewN | apply Kd.R_drew)); exact HO321.out) hb); have n1_ := Aside0.mk (Kd.R_below (Kd.R_elderB (by (with_reducible repeat (first | apply Kd.R_alloc | apply Kd.R_drewN | apply Kd.R_drew)); exact HO324.out) gb327 (Nat.le_of_eq hg.symm)) hb); have n2_ := Aside0.mk (below_step (by repeat (first | (with_reducible first | exact HB.out | apply below_alloc | apply pw_below_drewN | apply below_drew1) | exact HB.out)) hb); have n3_ := Aside0.mk (hbox); have n4_ := Aside0.mk ((by rw [hg]; exact (below_size (by repeat (first | (with_reducible first | exact HB.out | apply below_alloc | apply pw_below_drewN | apply below_drew1) | exact HB.out))) : w.heap.size ≤ gb327)); have n5_ := Aside0.mk ((by rw [hg]; exact (below_size (by repeat (first | (with_reducible first | exact HB.out | apply below_alloc | apply pw_below_drewN | apply below_drew1) | exact HB.out))) : w.heap.size ≤ gb327)); clear HO321; clear HO324; clear HB; have HO321 := n0_; have HO324 := n1_; have HB := n2_; have BK327 := n3_; have GW327 := n4_; have GE327 := n5_; clear n0_ n1_ n2_ n3_ n4_ n5_; clear hb hbox hg; have hcz38_0 : w37.cell? ⟨gb327, 0, none⟩ = some (.int .i64 0) := (blk_cell BK327.out 0).trans rfl; have hcz38_1 : w37.cell? ⟨gb327, 1, none⟩ = some (.string (⟨#[]⟩ : ByteArray)) := (blk_cell BK327.out 1).trans rfl; have hcz38_2 : w37.cell? ⟨gb327, 2, none⟩ = some (.slice none 0 0) := (blk_cell BK327.out 2).trans rfl; have hcz38_3 : w37.cell? ⟨gb327, 3, none⟩ = some (.slice none 0 0) := (blk_cell BK327.out 3).trans rfl; have hfz38_0 := blk_frozen BK327.out 0; have hfz38_1 := blk_frozen BK327.out 1; have hfz38_2 := blk_frozen BK327.out 2; have hfz38_3 := blk_frozen BK327.out 3; obtain ⟨Ao39, co39, eo39⟩ := Kd.R_slice HO321.out; subst eo39; obtain ⟨Ao40, co40, eo40⟩ := Kd.R_slice HO324.out; subst eo40) | ((with_reducible refine gate_callee (f := 17) rfl ?_); refine goesL_ (some 40) rfl rfl Tryd.func17 (by kernel_rfl) rfl #[.string a0, .int .i64 (Int.tmod (wrap64 (a2)) (wrap64 ((Int.tmod (wrap64 (a1)) 300) + 1)))] rfl (by (try simp only [List.map_toArray, List.map_cons, List.map_nil]); first | done | rfl | (simp only [List.length_drop, List.length_take]; rfl)) ?_; (with_reducible refine (impl_FjValueAt.calls k a0 (Int.tmod (wrap64 (a2)) (wrap64 ((Int.tmod (wrap64 (a1)) 300) + 1))) t328 t329 t330 t333 t336 true _ ?side1 ?side2 A8.out).mono ?_); (case side1 => repeat (first | exact Kd.C_below HRG0.out (by repeat (first | (with_reducible first | exact HB.out | apply below_alloc | apply pw_below_drewN | apply below_drew1 | refine below_set ?_ GE327.out) | exact HB.out)) | exact HRG0.out | (with_reducible refine Kd.C_alloc ?_ _) | (with_reducible refine Kd.C_drewN ?_ _) | (with_reducible refine Kd.C_drew ?_))); (case side2 => repeat (first | exact Kd.C_below HRG1.out (by repeat (first | (with_reducible first | exact HB.out | apply below_alloc | apply pw_below_drewN | apply below_drew1 | refine below_set ?_ GE327.out) | exact HB.out)) | exact HRG1.out | (with_reducible refine Kd.C_alloc ?_ _) | (with_reducible refine Kd.C_drewN ?_ _) | (with_reducible refine Kd.C_drew ?_))); rintro e w41 ⟨v331, v334, rfl, ho0, ho1, hb⟩; refine ⟨_, rfl, ?_⟩; have n0_ := Aside0.mk (Kd.R_elder' (by (with_reducible repeat (first | apply Kd.R_alloc | apply Kd.R_drewN | apply Kd.R_drew)); exact (Kd.R_mono (Kd.R_far (p := ⟨gb327, 3, none⟩) (Kd.R_far (p := ⟨gb327, 2, none⟩) (Kd.R_far (p := ⟨gb327, 1, none⟩) (Kd.R_far (p := ⟨gb327, 0, none⟩) (Kd.R_types HO321.out BK327.out (by decide)) (fun _ hk => hk.2) (.int .i64 t317)) (fun _ hk => hk.2) (.string t318)) (fun _ hk => hk.2) (.slice Ao39 t319.length co39)) (fun _ hk => hk.2) (.slice Ao40 t322.length co40)) (fun _ h_ => h_.1))) (Kd.R_base ho0) hb); have n1_ := Aside0.mk (Kd.R_mono (Kd.R_told (Kd.R_told (Kd.R_old (by (with_reducible repeat (first | apply Kd.R_alloc | apply Kd.R_drewN | apply Kd.R_drew)); exact (Kd.R_mono (Kd.R_far (p := ⟨gb327, 3, none⟩) (Kd.R_far (p := ⟨gb327, 2, none⟩) (Kd.R_far (p := ⟨gb327, 1, none⟩) (Kd.R_far (p := ⟨gb327, 0, none⟩) (Kd.R_mono HO324.out (fun k_ hk => (⟨hk, hk.2⟩ : _ ∧ k_ ≠ gb327))) (fun _ hk => hk.2) (.int .i64 t317)) (fun _ hk => hk.2) (.string t318)) (fun _ hk => hk.2) (.slice Ao39 t319.length co39)) (fun _ hk => hk.2) (.slice Ao40 t322.length co40)) (fun _ h_ => h_.1))) hb) (Kd.R_base ho0)) (Kd.R_base ho1)) (fun _ h_ => h_.1)); have n2_ := Aside0.mk (Kd.R_lower (Kd.R_new' ho0 (Kd.R_lt (by (with_reducible repeat (first | apply Kd.R_alloc | apply Kd.R_drewN | apply Kd.R_drew)); exact (Kd.R_mono (Kd.R_far (p := ⟨gb327, 3, none⟩) (Kd.R_far (p := ⟨gb327, 2, none⟩) (Kd.R_far (p := ⟨gb327, 1, none⟩) (Kd.R_far (p := ⟨gb327, 0, none⟩) (Kd.R_types HO321.out BK327.out (by decide)) (fun _ hk => hk.2) (.int .i64 t317)) (fun _ hk => hk.2) (.string t318)) (fun _ hk => hk.2) (.slice Ao39 t319.length co39)) (fun _ hk => hk.2) (.slice Ao40 t322.length co40)) (fun _ h_ => h_.1))))) (below_size (by repeat (first | (with_reducible first | exact HB.out | apply below_alloc | apply pw_below_drewN | apply below_drew1 | refine below_set ?_ GE327.out) | exact HB.out)))); have n3_ := Aside0.mk (Kd.R_lower (Kd.R_newB (Kd.R_new' (Kd.R_new' ho1 (Kd.R_lt (by (with_reducible repeat (first | apply Kd.R_alloc | apply Kd.R_drewN | apply Kd.R_drew)); exact (Kd.R_mono (Kd.R_far (p := ⟨gb327, 3, none⟩) (Kd.R_far (p := ⟨gb327, 2, none⟩) (Kd.R_far (p := ⟨gb327, 1, none⟩) (Kd.R_far (p := ⟨gb327, 0, none⟩) (Kd.R_types HO321.out BK327.out (by decide)) (fun _ hk => hk.2) (.int .i64 t317)) (fun _ hk => hk.2) (.string t318)) (fun _ hk => hk.2) (.slice Ao39 t319.length co39)) (fun _ hk => hk.2) (.slice Ao40 t322.length co40)) (fun _ h_ => h_.1))))) (Kd.R_lt (by (with_reducible repeat (first | apply Kd.R_alloc | apply Kd.R_drewN | apply Kd.R_drew)); exact (Kd.R_mono (Kd.R_far (p := ⟨gb327, 3, none⟩) (Kd.R_far (p := ⟨gb327, 2, none⟩) (Kd.R_far (p := ⟨gb327, 1, none⟩) (Kd.R_far (p := ⟨gb327, 0, none⟩) (Kd.R_mono HO324.out (fun k_ hk => (⟨hk, hk.2⟩ : _ ∧ k_ ≠ gb327))) (fun _ hk => hk.2) (.int .i64 t317)) (fun _ hk => hk.2) (.string t318)) (fun _ hk => hk.2) (.slice Ao39 t319.length co39)) (fun _ hk => hk.2) (.slice Ao40 t322.length co40)) (fun _ h_ => h_.1))))) (g := gb327) (o := .cells #[.int .i64 t317, .string t318, .slice Ao39 t319.length co39, .slice Ao40 t322.length co40] 38 (0, 0)) (by (with_reducible repeat (first | refine blk_drewN ?_ _ | refine blk_drew ?_ | refine blk_alloc ?_ _)); refine blk_put (cs := #[.int .i64 t317, .string t318, .slice Ao39 t319.length co39, .slice none 0 0]) ?_ 3 _ rfl; (with_reducible repeat (first | refine blk_drewN ?_ _ | refine blk_drew ?_ | refine blk_alloc ?_ _)); refine blk_put (cs := #[.int .i64 t317, .string t318, .slice none 0 0, .slice none 0 0]) ?_ 2 _ rfl; (with_reducible repeat (first | refine blk_drewN ?_ _ | refine blk_drew ?_ | refine blk_alloc ?_ _)); refine blk_put (cs := #[.int .i64 t317, .string (⟨#[]⟩ : ByteArray), .slice none 0 0, .slice none 0 0]) ?_ 1 _ rfl; (with_reducible repeat (first | refine blk_drewN ?_ _ | refine blk_drew ?_ | refine blk_alloc ?_ _)); refine blk_put (cs := #[.int .i64 0, .string (⟨#[]⟩ : ByteArray), .slice none 0 0, .slice none 0 0]) ?_ 0 _ rfl; (with_reducible repeat (first | refine blk_drewN ?_ _ | refine blk_drew ?_ | refine blk_alloc ?_ _)); exact BK327.out)) (below_size (by repeat (first | (with_reducible first | exact HB.out | apply below_alloc | apply pw_below_drewN | apply below_drew1 | refine below_set ?_ GE327.out) | exact HB.out)))); have n4_ := Aside0.mk (blk_below (g := gb327) (o := .cells #[.int .i64 t317, .string t318, .slice Ao39 t319.length co39, .slice Ao40 t322.length co40] 38 (0, 0)) (by (with_reducible repeat (first | refine blk_drewN ?_ _ | refine blk_drew ?_ | refine blk_alloc ?_ _)); refine blk_put (cs := #[.int .i64 t317, .string t318, .slice Ao39 t319.length co39, .slice none 0 0]) ?_ 3 _ rfl; (with_reducible repeat (first | refine blk_drewN ?_ _ | refine blk_drew ?_ | refine blk_alloc ?_ _)); refine blk_put (cs := #[.int .i64 t317, .string t318, .slice none 0 0, .slice none 0 0]) ?_ 2 _ rfl; (with_reducible repeat (first | refine blk_drewN ?_ _ | refine blk_drew ?_ | refine blk_alloc ?_ _)); refine blk_put (cs := #[.int .i64 t317, .string (⟨#[]⟩ : ByteArray), .slice none 0 0, .slice none 0 0]) ?_ 1 _ rfl; (with_reducible repeat (first | refine blk_drewN ?_ _ | refine blk_drew ?_ | refine blk_alloc ?_ _)); refine blk_put (cs := #[.int .i64 0, .string (⟨#[]⟩ : ByteArray), .slice none 0 0, .slice none 0 0]) ?_ 0 _ rfl; (with_reducible repeat (first | refine blk_drewN ?_ _ | refine blk_drew ?_ | refine blk_alloc ?_ _)); exact BK327.out) hb); have n5_ := Aside0.mk (below_step (by repeat (first | (with_reducible first | exact HB.out | apply below_alloc | apply pw_below_drewN | apply below_drew1 | refine below_set ?_ GE327.out) | exact HB.out)) hb); clear HO321; clear HO324; clear BK327; clear HB; have HO321 := n0_; have HO324 := n1_; have HO332 := n2_; have HO335 := n3_; have BK327 := n4_; have HB := n5_; clear n0_ n1_ n2_ n3_ n4_ n5_; (try clear hb); (try clear hb2); (try clear hk); (try clear hi); (try clear ho0); (try clear ho1)) | ((with_reducible refine gate_dst (N := 11) rfl ?_); refine box_event ?hg (N := 11) ?hd (cs := #[.int .i64 0, .string (⟨#[]⟩ : ByteArray), .slice none 0 0, .slice none 0 0]) (t := 38) ?hr ?_; (case hd => rfl); (case hg => rfl); (case hr => first | (go_simp; done) | (go_simp; rfl)); intro gb338 hg w42 hbox hb; have n0_ := Aside0.mk (Kd.R_below (by (with_reducible repeat (first | apply Kd.R_alloc | apply Kd.R_drewN | apply Kd.R_drew)); exact HO321.out) hb); have n1_ := Aside0.mk (Kd.R_below (Kd.R_elderB (by (with_reducible repeat (first | apply Kd.R_alloc | apply Kd.R_drewN | apply Kd.R_drew)); exact HO324.out) gb338 (Nat.le_of_eq hg.symm)) hb); have n2_ := Aside0.mk (Kd.R_below (by (with_reducible repeat (first | apply Kd.R_alloc | apply Kd.R_drewN | apply Kd.R_drew)); exact HO332.out) hb); have n3_ := Aside0.mk (Kd.R_below (Kd.R_elderB (by (with_reducible repeat (first | apply Kd.R_alloc | apply Kd.R_drewN | apply Kd.R_drew)); exact HO335.out) gb338 (Nat.le_of_eq hg.symm)) hb); have n4_ := Aside0.mk (blk_below (g := gb327) (o := .cells #[.int .i64 t317, .string t318, .slice Ao39 t319.length co39, .slice Ao40 t322.length co40] 38 (0, 0)) (by (with_reducible repeat (first | refine blk_drewN ?_ _ | refine blk_drew ?_ | refine blk_alloc ?_ _)); exact BK327.out) hb); have n5_ := Aside0.mk (below_step (by repeat (first | (with_reducible first | exact HB.out | apply below_alloc | apply pw_below_drewN | apply below_drew1 | refine below_set ?_ GE327.out) | exact HB.out)) hb); have n6_ := Aside0.mk (hbox); have n7_ := Aside0.mk ((by rw [hg]; exact (below_size (by repeat (first | (with_reducible first | exact HB.out | apply below_alloc | apply pw_below_drewN | apply below_drew1 | refine below_set ?_ GE327.out) | exact HB.out))) : w.heap.size ≤ gb338)); have n8_ := Aside0.mk ((by rw [hg]; exact (below_size (by repeat (first | (with_reducible first | exact HB.out | apply below_alloc | apply pw_below_drewN | apply below_drew1 | refine below_set ?_ GE327.out) | exact HB.out))) : w.heap.size ≤ gb338)); have n9_ := Aside0.mk ((by rw [hg]; exact Nat.ne_of_lt (blk_lt (g := gb327) (o := .cells #[.int .i64 t317, .string t318, .slice Ao39 t319.length co39, .slice Ao40 t322.length co40] 38 (0, 0)) (by (with_reducible repeat (first | refine blk_drewN ?_ _ | refine blk_drew ?_ | refine blk_alloc ?_ _)); exact BK327.out)) : gb327 ≠ gb338)); have n10_ := Aside0.mk ((by rw [hg]; exact Nat.ne_of_gt (blk_lt (g := gb327) (o := .cells #[.int .i64 t317, .string t318, .slice Ao39 t319.length co39, .slice Ao40 t322.length co40] 38 (0, 0)) (by (with_reducible repeat (first | refine blk_drewN ?_ _ | refine blk_drew ?_ | refine blk_alloc ?_ _)); exact BK327.out)) : gb338 ≠ gb327)); clear HO321; clear HO324; clear HO332; clear HO335; clear BK327; clear HB; have HO321 := n0_; have HO324 := n1_; have HO332 := n2_; have HO335 := n3_; have BK327 := n4_; have HB := n5_; have BK338 := n6_; have GW338 := n7_; have GE338 := n8_; have NB327_338 := n9_; have NB338_327 := n10_; clear n0_ n1_ n2_ n3_ n4_ n5_ n6_ n7_ n8_ n9_ n10_; clear hb hbox hg; have hnb43 := NB338_327.out; have hnc43 := NB327_338.out; have hcz44_0 : w42.cell? ⟨gb338, 0, none⟩ = some (.int .i64 0) := (blk_cell BK338.out 0).trans rfl; have hcz44_1 : w42.cell? ⟨gb338, 1, none⟩ = some (.string (⟨#[]⟩ : ByteArray)) := (blk_cell BK338.out 1).trans rfl; have hcz44_2 : w42.cell? ⟨gb338, 2, none⟩ = some (.slice none 0 0) := (blk_cell BK338.out 2).trans rfl; have hcz44_3 : w42.cell? ⟨gb338, 3, none⟩ = some (.slice none 0 0) := (blk_cell BK338.out 3).trans rfl; have hfz44_0 := blk_frozen BK338.out 0; have hfz44_1 := blk_frozen BK338.out 1; have hfz44_2 := blk_frozen BK338.out 2; have hfz44_3 := blk_frozen BK338.out 3; obtain ⟨Ao45, co45, eo45⟩ := Kd.R_slice HO332.out; subst eo45; obtain ⟨Ao46, co46, eo46⟩ := Kd.R_slice HO335.out; subst eo46) | ((with_reducible refine gate_callee (f := 17) rfl ?_); refine goesL_ (some 45) rfl rfl Tryd.func17 (by kernel_rfl) rfl #[.string (⟨#[49]⟩ : ByteArray), .int .i64 299] rfl (by (try simp only [List.map_toArray, List.map_cons, List.map_nil]); first | done | rfl | (simp only [List.length_drop, List.length_take]; rfl)) ?_; (with_reducible refine (impl_FjValueAt.calls k (⟨#[49]⟩ : ByteArray) 299 t339 t340 t341 t344 t347 true _ ?side1 ?side2 A9.out).mono ?_); (case side1 => repeat (first | exact Kd.C_below HRG0.out (by repeat (first | (with_reducible first | exact HB.out | apply below_alloc | apply pw_below_drewN | apply below_drew1 | refine below_set ?_ GE327.out | refine below_set ?_ GE338.out) | exact HB.out)) | exact HRG0.out | (with_reducible refine Kd.C_alloc ?_ _) | (with_reducible refine Kd.C_drewN ?_ _) | (with_reducible refine Kd.C_drew ?_))); (case side2 => repeat (first | exact Kd.C_below HRG1.out (by repeat (first | (with_reducible first | exact HB.out | apply below_alloc | apply pw_below_drewN | apply below_drew1 | refine below_set ?_ GE327.out | refine below_set ?_ GE338.out) | exact HB.out)) | exact HRG1.out | (with_reducible refine Kd.C_alloc ?_ _) | (with_reducible refine Kd.C_drewN ?_ _) | (with_reducible refine Kd.C_drew ?_))); rintro e w47 ⟨v342, v345, rfl, ho0, ho1, hb⟩; refine ⟨_, rfl, ?_⟩; have n0_ := Aside0.mk (Kd.R_elder' (by (with_reducible repeat (first | apply Kd.R_alloc | apply Kd.R_drewN | apply Kd.R_drew)); exact (Kd.R_mono (Kd.R_far (p := ⟨gb338, 3, none⟩) (Kd.R_far (p := ⟨gb338, 2, none⟩) (Kd.R_far (p := ⟨gb338, 1, none⟩) (Kd.R_far (p := ⟨gb338, 0, none⟩) (Kd.R_types HO321.out BK338.out (by decide)) (fun _ hk => hk.2) (.int .i64 t328)) (fun _ hk => hk.2) (.string t329)) (fun _ hk => hk.2) (.slice Ao45 t330.length co45)) (fun _ hk => hk.2) (.slice Ao46 t333.length co46)) (fun _ h_ => h_.1))) (Kd.R_base ho0) hb); have n1_ := Aside0.mk (Kd.R_mono (Kd.R_told (Kd.R_told (Kd.R_old (by (with_reducible repeat (first | apply Kd.R_alloc | apply Kd.R_drewN | apply Kd.R_drew)); exact (Kd.R_mono (Kd.R_far (p := ⟨gb338, 3, none⟩) (Kd.R_far (p := ⟨gb338, 2, none⟩) (Kd.R_far (p := ⟨gb338, 1, none⟩) (Kd.R_far (p := ⟨gb338, 0, none⟩) (Kd.R_mono HO324.out (fun k_ hk => (⟨hk, hk.2⟩ : _ ∧ k_ ≠ gb338))) (fun _ hk => hk.2) (.int .i64 t328)) (fun _ hk => hk.2) (.string t329)) (fun _ hk => hk.2) (.slice Ao45 t330.length co45)) (fun _ hk => hk.2) (.slice Ao46 t333.length co46)) (fun _ h_ => h_.1))) hb) (Kd.R_base ho0)) (Kd.R_base ho1)) (fun _ h_ => h_.1)); have n2_ := Aside0.mk (Kd.R_elder' (by (with_reducible repeat (first | apply Kd.R_alloc | apply Kd.R_drewN | apply Kd.R_drew)); exact (Kd.R_mono (Kd.R_far (p := ⟨gb338, 3, none⟩) (Kd.R_far (p := ⟨gb338, 2, none⟩) (Kd.R_far (p := ⟨gb338, 1, none⟩) (Kd.R_far (p := ⟨gb338, 0, none⟩) (Kd.R_types HO332.out BK338.out (by decide)) (fun _ hk => hk.2) (.int .i64 t328)) (fun _ hk => hk.2) (.string t329)) (fun _ hk => hk.2) (.slice Ao45 t330.length co45)) (fun _ hk => hk.2) (.slice Ao46 t333.length co46)) (fun _ h_ => h_.1))) (Kd.R_base ho0) hb); have n3_ := Aside0.mk (Kd.R_mono (Kd.R_told (Kd.R_told (Kd.R_old (by (with_reducible repeat (first | apply Kd.R_alloc | apply Kd.R_drewN | apply Kd.R_drew)); exact (Kd.R_mono (Kd.R_far (p := ⟨gb338, 3, none⟩) (Kd.R_far (p := ⟨gb338, 2, none⟩) (Kd.R_far (p := ⟨gb338, 1, none⟩) (Kd.R_far (p := ⟨gb338, 0, none⟩) (Kd.R_mono HO335.out (fun k_ hk => (⟨hk, hk.2⟩ : _ ∧ k_ ≠ gb338))) (fun _ hk => hk.2) (.int .i64 t328)) (fun _ hk => hk.2) (.string t329)) (fun _ hk => hk.2) (.slice Ao45 t330.length co45)) (fun _ hk => hk.2) (.slice Ao46 t333.length co46)) (fun _ h_ => h_.1))) hb) (Kd.R_base ho0)) (Kd.R_base ho1)) (fun _ h_ => h_.1)); have n4_ := Aside0.mk (Kd.R_lower (Kd.R_new' (Kd.R_new' ho0 (Kd.R_lt (by (with_reducible repeat (first | apply Kd.R_alloc | apply Kd.R_drewN | apply Kd.R_drew)); exact (Kd.R_mono (Kd.R_far (p := ⟨gb338, 3, none⟩) (Kd.R_far (p := ⟨gb338, 2, none⟩) (Kd.R_far (p := ⟨gb338, 1, none⟩) (Kd.R_far (p := ⟨gb338, 0, none⟩) (Kd.R_types HO321.out BK338.out (by decide)) (fun _ hk => hk.2) (.int .i64 t328)) (fun _ hk => hk.2) (.string t329)) (fun _ hk => hk.2) (.slice Ao45 t330.length co45)) (fun _ hk => hk.2) (.slice Ao46 t333.length co46)) (fun _ h_ => h_.1))))) (Kd.R_lt (by (with_reducible repeat (first | apply Kd.R_alloc | apply Kd.R_drewN | apply Kd.R_drew)); exact (Kd.R_mono (Kd.R_far (p := ⟨gb338, 3, none⟩) (Kd.R_far (p := ⟨gb338, 2, none⟩) (Kd.R_far (p := ⟨gb338, 1, none⟩) (Kd.R_far (p := ⟨gb338, 0, none⟩) (Kd.R_types HO332.out BK338.out (by decide)) (fun _ hk => hk.2) (.int .i64 t328)) (fun _ hk => hk.2) (.string t329)) (fun _ hk => hk.2) (.slice Ao45 t330.length co45)) (fun _ hk => hk.2) (.slice Ao46 t333.length co46)) (fun _ h_ => h_.1))))) (below_size (by repeat (first | (with_reducible first | exact HB.out | apply below_alloc | apply pw_below_drewN | apply below_drew1 | refine below_set ?_ GE327.out | refine below_set ?_ GE338.out) | exact HB.out)))); have n5_ := Aside0.mk (Kd.R_lower (Kd.R_newB (Kd.R_newB (Kd.R_new' (Kd.R_new' (Kd.R_new' (Kd.R_new' ho1 (Kd.R_lt (by (with_reducible repeat (first | apply Kd.R_alloc | apply Kd.R_drewN | apply Kd.R_drew)); exact (Kd.R_mono (Kd.R_far (p := ⟨gb338, 3, none⟩) (Kd.R_far (p := ⟨gb338, 2, none⟩) (Kd.R_far (p := ⟨gb338, 1, none⟩) (Kd.R_far (p := ⟨gb338, 0, none⟩) (Kd.R_types HO321.out BK338.out (by decide)) (fun _ hk => hk.2) (.int .i64 t328)) (fun _ hk => hk.2) (.string t329)) (fun _ hk => hk.2) (.slice Ao45 t330.length co45)) (fun _ hk => hk.2) (.slice Ao46 t333.length co46)) (fun _ h_ => h_.1))))) (Kd.R_lt (by (with_reducible repeat (first | apply Kd.R_alloc | apply Kd.R_drewN | apply Kd.R_drew)); exact (Kd.R_mono (Kd.R_far (p := ⟨gb338, 3, none⟩) (Kd.R_far (p := ⟨gb338, 2, none⟩) (Kd.R_far (p := ⟨gb338, 1, none⟩) (Kd.R_far (p := ⟨gb338, 0, none⟩) (Kd.R_mono HO324.out (fun k_ hk => (⟨hk, hk.2⟩ : _ ∧ k_ ≠ gb338))) (fun _ hk => hk.2) (.int .i64 t328)) (fun _ hk => hk.2) (.string t329)) (fun _ hk => hk.2) (.slice Ao45 t330.length co45)) (fun _ hk => hk.2) (.slice Ao46 t333.length co46)) (fun _ h_ => h_.1))))) (Kd.R_lt (by (with_reducible repeat (first | apply Kd.R_alloc | apply Kd.R_drewN | apply Kd.R_drew)); exact (Kd.R_mono (Kd.R_far (p := ⟨gb338, 3, none⟩) (Kd.R_far (p := ⟨gb338, 2, none⟩) (Kd.R_far (p := ⟨gb338, 1, none⟩) (Kd.R_far (p := ⟨gb338, 0, none⟩) (Kd.R_types HO332.out BK338.out (by decide)) (fun _ hk => hk.2) (.int .i64 t328)) (fun _ hk => hk.2) (.string t329)) (fun _ hk => hk.2) (.slice Ao45 t330.length co45)) (fun _ hk => hk.2) (.slice Ao46 t333.length co46)) (fun _ h_ => h_.1))))) (Kd.R_lt (by (with_reducible repeat (first | apply Kd.R_alloc | apply Kd.R_drewN | apply Kd.R_drew)); exact (Kd.R_mono (Kd.R_far (p := ⟨gb338, 3, none⟩) (Kd.R_far (p := ⟨gb338, 2, none⟩) (Kd.R_far (p := ⟨gb338, 1, none⟩) (Kd.R_far (p := ⟨gb338, 0, none⟩) (Kd.R_mono HO335.out (fun k_ hk => (⟨hk, hk.2⟩ : _ ∧ k_ ≠ gb338))) (fun _ hk => hk.2) (.int .i64 t328)) (fun _ hk => hk.2) (.string t329)) (fun _ hk => hk.2) (.slice Ao45 t330.length co45)) (fun _ hk => hk.2) (.slice Ao46 t333.length co46)) (fun _ h_ => h_.1))))) (g := gb327) (o := .cells #[.int .i64 t317, .string t318, .slice Ao39 t319.length co39, .slice Ao40 t322.length co40] 38 (0, 0)) (by (with_reducible repeat (first | refine blk_drewN ?_ _ | refine blk_drew ?_ | refine blk_alloc ?_ _)); refine blk_far ?_ NB327_338.out _; (with_reducible repeat (first | refine blk_drewN ?_ _ | refine blk_drew ?_ | refine blk_alloc ?_ _)); refine blk_far ?_ NB327_338.out _; (with_reducible repeat (first | refine blk_drewN ?_ _ | refine blk_drew ?_ | refine blk_alloc ?_ _)); refine blk_far ?_ NB327_338.out _; (with_reducible repeat (first | refine blk_drewN ?_ _ | refine blk_drew ?_ | refine blk_alloc ?_ _)); refine blk_far ?_ NB327_338.out _; (with_reducible repeat (first | refine blk_drewN ?_ _ | refine blk_drew ?_ | refine blk_alloc ?_ _)); exact BK327.out)) (g := gb338) (o := .cells #[.int .i64 t328, .string t329, .slice Ao45 t330.length co45, .slice Ao46 t333.length co46] 38 (0, 0)) (by (with_reducible repeat (first | refine blk_drewN ?_ _ | refine blk_drew ?_ | refine blk_alloc ?_ _)); refine blk_put (cs := #[.int .i64 t328, .string t329, .slice Ao45 t330.length co45, .slice none 0 0]) ?_ 3 _ rfl; (with_reducible repeat (first | refine blk_drewN ?_ _ | refine blk_drew ?_ | refine blk_alloc ?_ _)); refine blk_put (cs := #[.int .i64 t328, .string t329, .slice none 0 0, .slice none 0 0]) ?_ 2 _ rfl; (with_reducible repeat (first | refine blk_drewN ?_ _ | refine blk_drew ?_ | refine blk_alloc ?_ _)); refine blk_put (cs := #[.int .i64 t328, .string (⟨#[]⟩ : ByteArray), .slice none 0 0, .slice none 0 0]) ?_ 1 _ rfl; (with_reducible repeat (first | refine blk_drewN ?_ _ | refine blk_drew ?_ | refine blk_alloc ?_ _)); refine blk_put (cs := #[.int .i64 0, .string (⟨#[]⟩ : ByteArray), .slice none 0 0, .slice none 0 0]) ?_ 0 _ rfl; (with_reducible repeat (first | refine blk_drewN ?_ _ | refine blk_drew ?_ | refine blk_alloc ?_ _)); exact BK338.out)) (below_size (by repeat (first | (with_reducible first | exact HB.out | apply below_alloc | apply pw_below_drewN | apply below_drew1 | refine below_set ?_ GE327.out | refine below_set ?_ GE338.out) | exact HB.out)))); have n6_ := Aside0.mk (blk_below (g := gb327) (o := .cells #[.int .i64 t317, .string t318, .slice Ao39 t319.length co39, .slice Ao40 t322.length co40] 38 (0, 0)) (by (with_reducible repeat (first | refine blk_drewN ?_ _ | refine blk_drew ?_ | refine blk_alloc ?_ _)); refine blk_far ?_ NB327_338.out _; (with_reducible repeat (first | refine blk_drewN ?_ _ | refine blk_drew ?_ | refine blk_alloc ?_ _)); refine blk_far ?_ NB327_338.out _; (with_reducible repeat (first | refine blk_drewN ?_ _ | refine blk_drew ?_ | refine blk_alloc ?_ _)); refine blk_far ?_ NB327_338.out _; (with_reducible repeat (first | refine blk_drewN ?_ _ | refine blk_drew ?_ | refine blk_alloc ?_ _)); refine blk_far ?_ NB327_338.out _; (with_reducible repeat (first | refine blk_drewN ?_ _ | refine blk_drew ?_ | refine blk_alloc ?_ _)); exact BK327.out) hb); have n7_ := Aside0.mk (blk_below (g := gb338) (o := .cells #[.int .i64 t328, .string t329, .slice Ao45 t330.length co45, .slice Ao46 t333.length co46] 38 (0, 0)) (by (with_reducible repeat (first | refine blk_drewN ?_ _ | refine blk_drew ?_ | refine blk_alloc ?_ _)); refine blk_put (cs := #[.int .i64 t328, .string t329, .slice Ao45 t330.length co45, .slice none 0 0]) ?_ 3 _ rfl; (with_reducible repeat (first | refine blk_drewN ?_ _ | refine blk_drew ?_ | refine blk_alloc ?_ _)); refine blk_put (cs := #[.int .i64 t328, .string t329, .slice none 0 0, .slice none 0 0]) ?_ 2 _ rfl; (with_reducible repeat (first | refine blk_drewN ?_ _ | refine blk_drew ?_ | refine blk_alloc ?_ _)); refine blk_put (cs := #[.int .i64 t328, .string (⟨#[]⟩ : ByteArray), .slice none 0 0, .slice none 0 0]) ?_ 1 _ rfl; (with_reducible repeat (first | refine blk_drewN ?_ _ | refine blk_drew ?_ | refine blk_alloc ?_ _)); refine blk_put (cs := #[.int .i64 0, .string (⟨#[]⟩ : ByteArray), .slice none 0 0, .slice none 0 0]) ?_ 0 _ rfl; (with_reducible repeat (first | refine blk_drewN ?_ _ | refine blk_drew ?_ | refine blk_alloc ?_ _)); exact BK338.out) hb); have n8_ := Aside0.mk (below_step (by repeat (first | (with_reducible first | exact HB.out | apply below_alloc | apply pw_below_drewN | apply below_drew1 | refine below_set ?_ GE327.out | refine below_set ?_ GE338.out) | exact HB.out)) hb); clear HO321; clear HO324; clear HO332; clear HO335; clear BK327; clear BK338; clear HB; have HO321 := n0_; have HO324 := n1_; have HO332 := n2_; have HO335 := n3_; have HO343 := n4_; have HO346 := n5_; have BK327 := n6_; have BK338 := n7_; have HB := n8_; clear n0_ n1_ n2_ n3_ n4_ n5_ n6_ n7_ n8_; (try clear hb); (try clear hb2); (try clear hk); (try clear hi); (try clear ho0); (try clear ho1)) | ((with_reducible refine gate_dst (N := 14) rfl ?_); refine box_event ?hg (N := 14) ?hd (cs := #[.int .i64 0, .string (⟨#[]⟩ : ByteArray), .slice none 0 0, .slice none 0 0]) (t := 38) ?hr ?_; (case hd => rfl); (case hg => rfl); (case hr => first | (go_simp; done) | (go_simp; rfl)); intro gb349 hg w48 hbox hb; have n0_ := Aside0.mk (Kd.R_below (by (with_reducible repeat (first | apply Kd.R_alloc | apply Kd.R_drewN | apply Kd.R_drew)); exact HO321.out) hb); have n1_ := Aside0.mk (Kd.R_below (Kd.R_elderB (by (with_reducible repeat (first | apply Kd.R_alloc | apply Kd.R_drewN | apply Kd.R_drew)); exact HO324.out) gb349 (Nat.le_of_eq hg.symm)) hb); have n2_ := Aside0.mk (Kd.R_below (by (with_reducible repeat (first | apply Kd.R_alloc | apply Kd.R_drewN | apply Kd.R_drew)); exact HO332.out) hb); have n3_ := Aside0.mk (Kd.R_below (Kd.R_elderB (by (with_reducible repeat (first | apply Kd.R_alloc | apply Kd.R_drewN | apply Kd.R_drew)); exact HO335.out) gb349 (Nat.le_of_eq hg.symm)) hb); have n4_ := Aside0.mk (Kd.R_below (by (with_reducible repeat (first | apply Kd.R_alloc | apply Kd.R_drewN | apply Kd.R_drew)); exact HO343.out) hb); have n5_ := Aside0.mk (Kd.R_below (Kd.R_elderB (by (with_reducible repeat (first | apply Kd.R_alloc | apply Kd.R_drewN | apply Kd.R_drew)); exact HO346.out) gb349 (Nat.le_of_eq hg.symm)) hb); have n6_ := Aside0.mk (blk_below (g := gb327) (o := .cells #[.int .i64 t317, .string t318, .slice Ao39 t319.length co39, .slice Ao40 t322.length co40] 38 (0, 0)) (by (with_reducible repeat (first | refine blk_drewN ?_ _ | refine blk_drew ?_ | refine blk_alloc ?_ _)); exact BK327.out) hb); have n7_ := Aside0.mk (blk_below (g := gb338) (o := .cells #[.int .i64 t328, .string t329, .slice Ao45 t330.length co45, .slice Ao46 t333.length co46] 38 (0, 0)) (by (with_reducible repeat (first | refine blk_drewN ?_ _ | refine blk_drew ?_ | refine blk_alloc ?_ _)); exact BK338.out) hb); have n8_ := Aside0.mk (below_step (by repeat (first | (with_reducible first | exact HB.out | apply below_alloc | apply pw_below_drewN | apply below_drew1 | refine below_set ?_ GE327.out | refine below_set ?_ GE338.out) | exact HB.out)) hb); have n9_ := Aside0.mk (hbox); have n10_ := Aside0.mk ((by rw [hg]; exact (below_size (by repeat (first | (with_reducible first | exact HB.out | apply below_alloc | apply pw_below_drewN | apply below_drew1 | refine below_set ?_ GE327.out | refine below_set ?_ GE338.out) | exact HB.out))) : w.heap.size ≤ gb349)); have n11_ := Aside0.mk ((by rw [hg]; exact (below_size (by repeat (first | (with_reducible first | exact HB.out | apply below_alloc | apply pw_below_drewN | apply below_drew1 | refine below_set ?_ GE327.out | refine below_set ?_ GE338.out) | exact HB.out))) : w.heap.size ≤ gb349)); have n12_ := Aside0.mk ((by rw [hg]; exact Nat.ne_of_lt (blk_lt (g := gb327) (o := .cells #[.int .i64 t317, .string t318, .slice Ao39 t319.length co39, .slice Ao40 t322.length co40] 38 (0, 0)) (by (with_reducible repeat (first | refine blk_drewN ?_ _ | refine blk_drew ?_ | refine blk_alloc ?_ _)); exact BK327.out)) : gb327 ≠ gb349)); have n13_ := Aside0.mk ((by rw [hg]; exact Nat.ne_of_gt (blk_lt (g := gb327) (o := .cells #[.int .i64 t317, .string t318, .slice Ao39 t319.length co39, .slice Ao40 t322.length co40] 38 (0, 0)) (by (with_reducible repeat (first | refine blk_drewN ?_ _ | refine blk_drew ?_ | refine blk_alloc ?_ _)); exact BK327.out)) : gb349 ≠ gb327)); have n14_ := Aside0.mk ((by rw [hg]; exact Nat.ne_of_lt (blk_lt (g := gb338) (o := .cells #[.int .i64 t328, .string t329, .slice Ao45 t330.length co45, .slice Ao46 t333.length co46] 38 (0, 0)) (by (with_reducible repeat (first | refine blk_drewN ?_ _ | refine blk_drew ?_ | refine blk_alloc ?_ _)); exact BK338.out)) : gb338 ≠ gb349)); have n15_ := Aside0.mk ((by rw [hg]; exact Nat.ne_of_gt (blk_lt (g := gb338) (o := .cells #[.int .i64 t328, .string t329, .slice Ao45 t330.length co45, .slice Ao46 t333.length co46] 38 (0, 0)) (by (with_reducible repeat (first | refine blk_drewN ?_ _ | refine blk_drew ?_ | refine blk_alloc ?_ _)); exact BK338.out)) : gb349 ≠ gb338)); clear HO321; clear HO324; clear HO332; clear HO335; clear HO343; clear HO346; clear BK327; clear BK338; clear HB; have HO321 := n0_; have HO324 := n1_; have HO332 := n2_; have HO335 := n3_; have HO343 := n4_; have HO346 := n5_; have BK327 := n6_; have BK338 := n7_; have HB := n8_; have BK349 := n9_; have GW349 := n10_; have GE349 := n11_; have NB327_349 := n12_; have NB349_327 := n13_; have NB338_349 := n14_; have NB349_338 := n15_; clear n0_ n1_ n2_ n3_ n4_ n5_ n6_ n7_ n8_ n9_ n10_ n11_ n12_ n13_ n14_ n15_; clear hb hbox hg; have hnb49 := NB349_327.out; have hnc49 := NB327_349.out; have hnb50 := NB349_338.out; have hnc50 := NB338_349.out; have hcz51_0 : w48.cell? ⟨gb349, 0, none⟩ = some (.int .i64 0) := (blk_cell BK349.out 0).trans rfl; have hcz51_1 : w48.cell? ⟨gb349, 1, none⟩ = some (.string (⟨#[]⟩ : ByteArray)) := (blk_cell BK349.out 1).trans rfl; have hcz51_2 : w48.cell? ⟨gb349, 2, none⟩ = some (.slice none 0 0) := (blk_cell BK349.out 2).trans rfl; have hcz51_3 : w48.cell? ⟨gb349, 3, none⟩ = some (.slice none 0 0) := (blk_cell BK349.out 3).trans rfl; have hfz51_0 := blk_frozen BK349.out 0; have hfz51_1 := blk_frozen BK349.out 1; have hfz51_2 := blk_frozen BK349.out 2; have hfz51_3 := blk_frozen BK349.out 3; obtain ⟨Ao52, co52, eo52⟩ := Kd.R_slice HO343.out; subst eo52; obtain ⟨Ao53, co53, eo53⟩ := Kd.R_slice HO346.out; subst eo53))
    go_ret
    exact ⟨by first | rfl | (simp [errW_none, errW_some] <;> rfl) | (simp [*, errW_none, errW_some] <;> rfl) | (simp [errW_none, errW_some] <;> exact ⟨rfl, rfl⟩) | (simp [*, errW_none, errW_some] <;> exact ⟨rfl, rfl⟩), by repeat (first | (with_reducible first | exact HB.out | apply below_alloc | apply pw_below_drewN | apply below_drew1 | refine below_set ?_ GE327.out | refine below_set ?_ GE338.out | refine below_set ?_ GE349.out) | exact HB.out)⟩
   replace c12 := Bool.eq_false_iff.mpr c12
   subst c12
   have H1 : (some false) = some r := by rw [if_neg (show ¬ (false = true) by decide)] at H; exact H
   clear H
   have H := H1
   clear H1
   obtain rfl := Option.some.inj H
   go_enter Tryd.func6, Tryd.ntmps6
   go_wp2_with (first | ((with_reducible refine gate_callee (f := 17) rfl ?_); refine goesL_ (some 29) rfl rfl Tryd.func17 (by kernel_rfl) rfl #[.string a0, .int .i64 (Int.tmod (wrap64 (a1)) 300)] rfl (by (try simp only [List.map_toArray, List.map_cons, List.map_nil]); first | done | rfl | (simp only [List.length_drop, List.length_take]; rfl)) ?_; (with_reducible refine (impl_FjValueAt.calls k a0 (Int.tmod (wrap64 (a1)) 300) t317 t318 t319 t322 t325 true _ ?side1 ?side2 A6.out).mono ?_); (case side1 => repeat (first | exact Kd.C_below HRG0.out (by repeat (first | (with_reducible first | exact HB.out | apply below_alloc | apply pw_below_drewN | apply below_drew1) | exact HB.out)) | exact HRG0.out | (with_reducible refine Kd.C_alloc ?_ _) | (with_reducible refine Kd.C_drewN ?_ _) | (with_reducible refine Kd.C_drew ?_))); (case side2 => repeat (first | exact Kd.C_below HRG1.out (by repeat (first | (with_reducible first | exact HB.out | apply below_alloc | apply pw_below_drewN | apply below_drew1) | exact HB.out)) | exact HRG1.out | (with_reducible refine Kd.C_alloc ?_ _) | (with_reducible refine Kd.C_drewN ?_ _) | (with_reducible refine Kd.C_drew ?_))); rintro e w54 ⟨v320, v323, rfl, ho0, ho1, hb⟩; refine ⟨_, rfl, ?_⟩; have n0_ := Aside0.mk (Kd.R_lower ho0 (below_size (by repeat (first | (with_reducible first | exact HB.out | apply below_alloc | apply pw_below_drewN | apply below_drew1) | exact HB.out)))); have n1_ := Aside0.mk (Kd.R_lower ho1 (below_size (by repeat (first | (with_reducible first | exact HB.out | apply below_alloc | apply pw_below_drewN | apply below_drew1) | exact HB.out)))); have n2_ := Aside0.mk (below_step (by repeat (first | (with_reducible first | exact HB.out | apply below_alloc | apply pw_below_drewN | apply below_drew1) | exact HB.out)) hb); clear HB; have HO321 := n0_; have HO324 := n1_; have HB := n2_; clear n0_ n1_ n2_; (try clear hb); (try clear hb2); (try clear hk); (try clear hi); (try clear ho0); (try clear ho1)) | ((with_reducible refine gate_dst (N := 8) rfl ?_); refine box_event ?hg (N := 8) ?hd (cs := #[.int .i64 0, .string (⟨#[]⟩ : ByteArray), .slice none 0 0, .slice none 0 0]) (t := 38) ?hr ?_; (case hd => rfl); (case hg => rfl); (case hr => first | (go_simp; done) | (go_simp; rfl)); intro gb327 hg w55 hbox hb; have n0_ := Aside0.mk (Kd.R_below (by (with_reducible repeat (first | apply Kd.R_alloc | apply Kd.R_drewN | apply Kd.R_drew)); exact HO321.out) hb); have n1_ := Aside0.mk (Kd.R_below (Kd.R_elderB (by (with_reducible repeat (first | apply Kd.R_alloc | apply Kd.R_drewN | apply Kd.R_drew)); exact HO324.out) gb327 (Nat.le_of_eq hg.symm)) hb); have n2_ := Aside0.mk (below_step (by repeat (first | (with_reducible first | exact HB.out | apply below_alloc | apply pw_below_drewN | apply below_drew1) | exact HB.out)) hb); have n3_ := Aside0.mk (hbox); have n4_ := Aside0.mk ((by rw [hg]; exact (below_size (by repeat (first | (with_reducible first | exact HB.out | apply below_alloc | apply pw_below_drewN | apply below_drew1) | exact HB.out))) : w.heap.size ≤ gb327)); have n5_ := Aside0.mk ((by rw [hg]; exact (below_size (by repeat (first | (with_reducible first | exact HB.out | apply below_alloc | apply pw_below_drewN | apply below_drew1) | exact HB.out))) : w.heap.size ≤ gb327)); clear HO321; clear HO324; clear HB; have HO321 := n0_; have HO324 := n1_; have HB := n2_; have BK327 := n3_; have GW327 := n4_; have GE327 := n5_; clear n0_ n1_ n2_ n3_ n4_ n5_; clear hb hbox hg; have hcz56_0 : w55.cell? ⟨gb327, 0, none⟩ = some (.int .i64 0) := (blk_cell BK327.out 0).trans rfl; have hcz56_1 : w55.cell? ⟨gb327, 1, none⟩ = some (.string (⟨#[]⟩ : ByteArray)) := (blk_cell BK327.out 1).trans rfl; have hcz56_2 : w55.cell? ⟨gb327, 2, none⟩ = some (.slice none 0 0) := (blk_cell BK327.out 2).trans rfl; have hcz56_3 : w55.cell? ⟨gb327, 3, none⟩ = some (.slice none 0 0) := (blk_cell BK327.out 3).trans rfl; have hfz56_0 := blk_frozen BK327.out 0; have hfz56_1 := blk_frozen BK327.out 1; have hfz56_2 := blk_frozen BK327.out 2; have hfz56_3 := blk_frozen BK327.out 3; obtain ⟨Ao57, co57, eo57⟩ := Kd.R_slice HO321.out; subst eo57; obtain ⟨Ao58, co58, eo58⟩ := Kd.R_slice HO324.out; subst eo58) | ((with_reducible refine gate_callee (f := 17) rfl ?_); refine goesL_ (some 40) rfl rfl Tryd.func17 (by kernel_rfl) rfl #[.string a0, .int .i64 (Int.tmod (wrap64 (a2)) (wrap64 ((Int.tmod (wrap64 (a1)) 300) + 1)))] rfl (by (try simp only [List.map_toArray, List.map_cons, List.map_nil]); first | done | rfl | (simp only [List.length_drop, List.length_take]; rfl)) ?_; (with_reducible refine (impl_FjValueAt.calls k a0 (Int.tmod (wrap64 (a2)) (wrap64 ((Int.tmod (wrap64 (a1)) 300) + 1))) t328 t329 t330 t333 t336 false _ ?side1 ?side2 A8.out).mono ?_); (case side1 => repeat (first | exact Kd.C_below HRG0.out (by repeat (first | (with_reducible first | exact HB.out | apply below_alloc | apply pw_below_drewN | apply below_drew1 | refine below_set ?_ GE327.out) | exact HB.out)) | exact HRG0.out | (with_reducible refine Kd.C_alloc ?_ _) | (with_reducible refine Kd.C_drewN ?_ _) | (with_reducible refine Kd.C_drew ?_))); (case side2 => repeat (first | exact Kd.C_below HRG1.out (by repeat (first | (with_reducible first | exact HB.out | apply below_alloc | apply pw_below_drewN | apply below_drew1 | refine below_set ?_ GE327.out) | exact HB.out)) | exact HRG1.out | (with_reducible refine Kd.C_alloc ?_ _) | (with_reducible refine Kd.C_drewN ?_ _) | (with_reducible refine Kd.C_drew ?_))); rintro e w59 ⟨v331, v334, rfl, ho0, ho1, hb⟩; refine ⟨_, rfl, ?_⟩; have n0_ := Aside0.mk (Kd.R_elder' (by (with_reducible repeat (first | apply Kd.R_alloc | apply Kd.R_drewN | apply Kd.R_drew)); exact (Kd.R_mono (Kd.R_far (p := ⟨gb327, 3, none⟩) (Kd.R_far (p := ⟨gb327, 2, none⟩) (Kd.R_far (p := ⟨gb327, 1, none⟩) (Kd.R_far (p := ⟨gb327, 0, none⟩) (Kd.R_types HO321.out BK327.out (by decide)) (fun _ hk => hk.2) (.int .i64 t317)) (fun _ hk => hk.2) (.string t318)) (fun _ hk => hk.2) (.slice Ao57 t319.length co57)) (fun _ hk => hk.2) (.slice Ao58 t322.length co58)) (fun _ h_ => h_.1))) (Kd.R_base ho0) hb); have n1_ := Aside0.mk (Kd.R_mono (Kd.R_told (Kd.R_told (Kd.R_old (by (with_reducible repeat (first | apply Kd.R_alloc | apply Kd.R_drewN | apply Kd.R_drew)); exact (Kd.R_mono (Kd.R_far (p := ⟨gb327, 3, none⟩) (Kd.R_far (p := ⟨gb327, 2, none⟩) (Kd.R_far (p := ⟨gb327, 1, none⟩) (Kd.R_far (p := ⟨gb327, 0, none⟩) (Kd.R_mono HO324.out (fun k_ hk => (⟨hk, hk.2⟩ : _ ∧ k_ ≠ gb327))) (fun _ hk => hk.2) (.int .i64 t317)) (fun _ hk => hk.2) (.string t318)) (fun _ hk => hk.2) (.slice Ao57 t319.length co57)) (fun _ hk => hk.2) (.slice Ao58 t322.length co58)) (fun _ h_ => h_.1))) hb) (Kd.R_base ho0)) (Kd.R_base ho1)) (fun _ h_ => h_.1)); have n2_ := Aside0.mk (Kd.R_lower (Kd.R_new' ho0 (Kd.R_lt (by (with_reducible repeat (first | apply Kd.R_alloc | apply Kd.R_drewN | apply Kd.R_drew)); exact (Kd.R_mono (Kd.R_far (p := ⟨gb327, 3, none⟩) (Kd.R_far (p := ⟨gb327, 2, none⟩) (Kd.R_far (p := ⟨gb327, 1, none⟩) (Kd.R_far (p := ⟨gb327, 0, none⟩) (Kd.R_types HO321.out BK327.out (by decide)) (fun _ hk => hk.2) (.int .i64 t317)) (fun _ hk => hk.2) (.string t318)) (fun _ hk => hk.2) (.slice Ao57 t319.length co57)) (fun _ hk => hk.2) (.slice Ao58 t322.length co58)) (fun _ h_ => h_.1))))) (below_size (by repeat (first | (with_reducible first | exact HB.out | apply below_alloc | apply pw_below_drewN | apply below_drew1 | refine below_set ?_ GE327.out) | exact HB.out)))); have n3_ := Aside0.mk (Kd.R_lower (Kd.R_newB (Kd.R_new' (Kd.R_new' ho1 (Kd.R_lt (by (with_reducible repeat (first | apply Kd.R_alloc | apply Kd.R_drewN | apply Kd.R_drew)); exact (Kd.R_mono (Kd.R_far (p := ⟨gb327, 3, none⟩) (Kd.R_far (p := ⟨gb327, 2, none⟩) (Kd.R_far (p := ⟨gb327, 1, none⟩) (Kd.R_far (p := ⟨gb327, 0, none⟩) (Kd.R_types HO321.out BK327.out (by decide)) (fun _ hk => hk.2) (.int .i64 t317)) (fun _ hk => hk.2) (.string t318)) (fun _ hk => hk.2) (.slice Ao57 t319.length co57)) (fun _ hk => hk.2) (.slice Ao58 t322.length co58)) (fun _ h_ => h_.1))))) (Kd.R_lt (by (with_reducible repeat (first | apply Kd.R_alloc | apply Kd.R_drewN | apply Kd.R_drew)); exact (Kd.R_mono (Kd.R_far (p := ⟨gb327, 3, none⟩) (Kd.R_far (p := ⟨gb327, 2, none⟩) (Kd.R_far (p := ⟨gb327, 1, none⟩) (Kd.R_far (p := ⟨gb327, 0, none⟩) (Kd.R_mono HO324.out (fun k_ hk => (⟨hk, hk.2⟩ : _ ∧ k_ ≠ gb327))) (fun _ hk => hk.2) (.int .i64 t317)) (fun _ hk => hk.2) (.string t318)) (fun _ hk => hk.2) (.slice Ao57 t319.length co57)) (fun _ hk => hk.2) (.slice Ao58 t322.length co58)) (fun _ h_ => h_.1))))) (g := gb327) (o := .cells #[.int .i64 t317, .string t318, .slice Ao57 t319.length co57, .slice Ao58 t322.length co58] 38 (0, 0)) (by (with_reducible repeat (first | refine blk_drewN ?_ _ | refine blk_drew ?_ | refine blk_alloc ?_ _)); refine blk_put (cs := #[.int .i64 t317, .string t318, .slice Ao57 t319.length co57, .slice none 0 0]) ?_ 3 _ rfl; (with_reducible repeat (first | refine blk_drewN ?_ _ | refine blk_drew ?_ | refine blk_alloc ?_ _)); refine blk_put (cs := #[.int .i64 t317, .string t318, .slice none 0 0, .slice none 0 0]) ?_ 2 _ rfl; (with_reducible repeat (first | refine blk_drewN ?_ _ | refine blk_drew ?_ | refine blk_alloc ?_ _)); refine blk_put (cs := #[.int .i64 t317, .string (⟨#[]⟩ : ByteArray), .slice none 0 0, .slice none 0 0]) ?_ 1 _ rfl; (with_reducible repeat (first | refine blk_drewN ?_ _ | refine blk_drew ?_ | refine blk_alloc ?_ _)); refine blk_put (cs := #[.int .i64 0, .string (⟨#[]⟩ : ByteArray), .slice none 0 0, .slice none 0 0]) ?_ 0 _ rfl; (with_reducible repeat (first | refine blk_drewN ?_ _ | refine blk_drew ?_ | refine blk_alloc ?_ _)); exact BK327.out)) (below_size (by repeat (first | (with_reducible first | exact HB.out | apply below_alloc | apply pw_below_drewN | apply below_drew1 | refine below_set ?_ GE327.out) | exact HB.out)))); have n4_ := Aside0.mk (blk_below (g := gb327) (o := .cells #[.int .i64 t317, .string t318, .slice Ao57 t319.length co57, .slice Ao58 t322.length co58] 38 (0, 0)) (by (with_reducible repeat (first | refine blk_drewN ?_ _ | refine blk_drew ?_ | refine blk_alloc ?_ _)); refine blk_put (cs := #[.int .i64 t317, .string t318, .slice Ao57 t319.length co57, .slice none 0 0]) ?_ 3 _ rfl; (with_reducible repeat (first | refine blk_drewN ?_ _ | refine blk_drew ?_ | refine blk_alloc ?_ _)); refine blk_put (cs := #[.int .i64 t317, .string t318, .slice none 0 0, .slice none 0 0]) ?_ 2 _ rfl; (with_reducible repeat (first | refine blk_drewN ?_ _ | refine blk_drew ?_ | refine blk_alloc ?_ _)); refine blk_put (cs := #[.int .i64 t317, .string (⟨#[]⟩ : ByteArray), .slice none 0 0, .slice none 0 0]) ?_ 1 _ rfl; (with_reducible repeat (first | refine blk_drewN ?_ _ | refine blk_drew ?_ | refine blk_alloc ?_ _)); refine blk_put (cs := #[.int .i64 0, .string (⟨#[]⟩ : ByteArray), .slice none 0 0, .slice none 0 0]) ?_ 0 _ rfl; (with_reducible repeat (first | refine blk_drewN ?_ _ | refine blk_drew ?_ | refine blk_alloc ?_ _)); exact BK327.out) hb); have n5_ := Aside0.mk (below_step (by repeat (first | (with_reducible first | exact HB.out | apply below_alloc | apply pw_below_drewN | apply below_drew1 | refine below_set ?_ GE327.out) | exact HB.out)) hb); clear HO321; clear HO324; clear BK327; clear HB; have HO321 := n0_; have HO324 := n1_; have HO332 := n2_; have HO335 := n3_; have BK327 := n4_; have HB := n5_; clear n0_ n1_ n2_ n3_ n4_ n5_; (try clear hb); (try clear hb2); (try clear hk); (try clear hi); (try clear ho0); (try clear ho1)) | ((with_reducible refine gate_dst (N := 11) rfl ?_); refine box_event ?hg (N := 11) ?hd (cs := #[.int .i64 0, .string (⟨#[]⟩ : ByteArray), .slice none 0 0, .slice none 0 0]) (t := 38) ?hr ?_; (case hd => rfl); (case hg => rfl); (case hr => first | (go_simp; done) | (go_simp; rfl)); intro gb338 hg w60 hbox hb; have n0_ := Aside0.mk (Kd.R_below (by (with_reducible repeat (first | apply Kd.R_alloc | apply Kd.R_drewN | apply Kd.R_drew)); exact HO321.out) hb); have n1_ := Aside0.mk (Kd.R_below (Kd.R_elderB (by (with_reducible repeat (first | apply Kd.R_alloc | apply Kd.R_drewN | apply Kd.R_drew)); exact HO324.out) gb338 (Nat.le_of_eq hg.symm)) hb); have n2_ := Aside0.mk (Kd.R_below (by (with_reducible repeat (first | apply Kd.R_alloc | apply Kd.R_drewN | apply Kd.R_drew)); exact HO332.out) hb); have n3_ := Aside0.mk (Kd.R_below (Kd.R_elderB (by (with_reducible repeat (first | apply Kd.R_alloc | apply Kd.R_drewN | apply Kd.R_drew)); exact HO335.out) gb338 (Nat.le_of_eq hg.symm)) hb); have n4_ := Aside0.mk (blk_below (g := gb327) (o := .cells #[.int .i64 t317, .string t318, .slice Ao57 t319.length co57, .slice Ao58 t322.length co58] 38 (0, 0)) (by (with_reducible repeat (first | refine blk_drewN ?_ _ | refine blk_drew ?_ | refine blk_alloc ?_ _)); exact BK327.out) hb); have n5_ := Aside0.mk (below_step (by repeat (first | (with_reducible first | exact HB.out | apply below_alloc | apply pw_below_drewN | apply below_drew1 | refine below_set ?_ GE327.out) | exact HB.out)) hb); have n6_ := Aside0.mk (hbox); have n7_ := Aside0.mk ((by rw [hg]; exact (below_size (by repeat (first | (with_reducible first | exact HB.out | apply below_alloc | apply pw_below_drewN | apply below_drew1 | refine below_set ?_ GE327.out) | exact HB.out))) : w.heap.size ≤ gb338)); have n8_ := Aside0.mk ((by rw [hg]; exact (below_size (by repeat (first | (with_reducible first | exact HB.out | apply below_alloc | apply pw_below_drewN | apply below_drew1 | refine below_set ?_ GE327.out) | exact HB.out))) : w.heap.size ≤ gb338)); have n9_ := Aside0.mk ((by rw [hg]; exact Nat.ne_of_lt (blk_lt (g := gb327) (o := .cells #[.int .i64 t317, .string t318, .slice Ao57 t319.length co57, .slice Ao58 t322.length co58] 38 (0, 0)) (by (with_reducible repeat (first | refine blk_drewN ?_ _ | refine blk_drew ?_ | refine blk_alloc ?_ _)); exact BK327.out)) : gb327 ≠ gb338)); have n10_ := Aside0.mk ((by rw [hg]; exact Nat.ne_of_gt (blk_lt (g := gb327) (o := .cells #[.int .i64 t317, .string t318, .slice Ao57 t319.length co57, .slice Ao58 t322.length co58] 38 (0, 0)) (by (with_reducible repeat (first | refine blk_drewN ?_ _ | refine blk_drew ?_ | refine blk_alloc ?_ _)); exact BK327.out)) : gb338 ≠ gb327)); clear HO321; clear HO324; clear HO332; clear HO335; clear BK327; clear HB; have HO321 := n0_; have HO324 := n1_; have HO332 := n2_; have HO335 := n3_; have BK327 := n4_; have HB := n5_; have BK338 := n6_; have GW338 := n7_; have GE338 := n8_; have NB327_338 := n9_; have NB338_327 := n10_; clear n0_ n1_ n2_ n3_ n4_ n5_ n6_ n7_ n8_ n9_ n10_; clear hb hbox hg; have hnb61 := NB338_327.out; have hnc61 := NB327_338.out; have hcz62_0 : w60.cell? ⟨gb338, 0, none⟩ = some (.int .i64 0) := (blk_cell BK338.out 0).trans rfl; have hcz62_1 : w60.cell? ⟨gb338, 1, none⟩ = some (.string (⟨#[]⟩ : ByteArray)) := (blk_cell BK338.out 1).trans rfl; have hcz62_2 : w60.cell? ⟨gb338, 2, none⟩ = some (.slice none 0 0) := (blk_cell BK338.out 2).trans rfl; have hcz62_3 : w60.cell? ⟨gb338, 3, none⟩ = some (.slice none 0 0) := (blk_cell BK338.out 3).trans rfl; have hfz62_0 := blk_frozen BK338.out 0; have hfz62_1 := blk_frozen BK338.out 1; have hfz62_2 := blk_frozen BK338.out 2; have hfz62_3 := blk_frozen BK338.out 3; obtain ⟨Ao63, co63, eo63⟩ := Kd.R_slice HO332.out; subst eo63; obtain ⟨Ao64, co64, eo64⟩ := Kd.R_slice HO335.out; subst eo64) | ((with_reducible refine gate_callee (f := 17) rfl ?_); refine goesL_ (some 45) rfl rfl Tryd.func17 (by kernel_rfl) rfl #[.string (⟨#[49]⟩ : ByteArray), .int .i64 299] rfl (by (try simp only [List.map_toArray, List.map_cons, List.map_nil]); first | done | rfl | (simp only [List.length_drop, List.length_take]; rfl)) ?_; (with_reducible refine (impl_FjValueAt.calls k (⟨#[49]⟩ : ByteArray) 299 t339 t340 t341 t344 t347 true _ ?side1 ?side2 A9.out).mono ?_); (case side1 => repeat (first | exact Kd.C_below HRG0.out (by repeat (first | (with_reducible first | exact HB.out | apply below_alloc | apply pw_below_drewN | apply below_drew1 | refine below_set ?_ GE327.out | refine below_set ?_ GE338.out) | exact HB.out)) | exact HRG0.out | (with_reducible refine Kd.C_alloc ?_ _) | (with_reducible refine Kd.C_drewN ?_ _) | (with_reducible refine Kd.C_drew ?_))); (case side2 => repeat (first | exact Kd.C_below HRG1.out (by repeat (first | (with_reducible first | exact HB.out | apply below_alloc | apply pw_below_drewN | apply below_drew1 | refine below_set ?_ GE327.out | refine below_set ?_ GE338.out) | exact HB.out)) | exact HRG1.out | (with_reducible refine Kd.C_alloc ?_ _) | (with_reducible refine Kd.C_drewN ?_ _) | (with_reducible refine Kd.C_drew ?_))); rintro e w65 ⟨v342, v345, rfl, ho0, ho1, hb⟩; refine ⟨_, rfl, ?_⟩; have n0_ := Aside0.mk (Kd.R_elder' (by (with_reducible repeat (first | apply Kd.R_alloc | apply Kd.R_drewN | apply Kd.R_drew)); exact (Kd.R_mono (Kd.R_far (p := ⟨gb338, 3, none⟩) (Kd.R_far (p := ⟨gb338, 2, none⟩) (Kd.R_far (p := ⟨gb338, 1, none⟩) (Kd.R_far (p := ⟨gb338, 0, none⟩) (Kd.R_types HO321.out BK338.out (by decide)) (fun _ hk => hk.2) (.int .i64 t328)) (fun _ hk => hk.2) (.string t329)) (fun _ hk => hk.2) (.slice Ao63 t330.length co63)) (fun _ hk => hk.2) (.slice Ao64 t333.length co64)) (fun _ h_ => h_.1))) (Kd.R_base ho0) hb); have n1_ := Aside0.mk (Kd.R_mono (Kd.R_told (Kd.R_told (Kd.R_old (by (with_reducible repeat (first | apply Kd.R_alloc | apply Kd.R_drewN | apply Kd.R_drew)); exact (Kd.R_mono (Kd.R_far (p := ⟨gb338, 3, none⟩) (Kd.R_far (p := ⟨gb338, 2, none⟩) (Kd.R_far (p := ⟨gb338, 1, none⟩) (Kd.R_far (p := ⟨gb338, 0, none⟩) (Kd.R_mono HO324.out (fun k_ hk => (⟨hk, hk.2⟩ : _ ∧ k_ ≠ gb338))) (fun _ hk => hk.2) (.int .i64 t328)) (fun _ hk => hk.2) (.string t329)) (fun _ hk => hk.2) (.slice Ao63 t330.length co63)) (fun _ hk => hk.2) (.slice Ao64 t333.length co64)) (fun _ h_ => h_.1))) hb) (Kd.R_base ho0)) (Kd.R_base ho1)) (fun _ h_ => h_.1)); have n2_ := Aside0.mk (Kd.R_elder' (by (with_reducible repeat (first | apply Kd.R_alloc | apply Kd.R_drewN | apply Kd.R_drew)); exact (Kd.R_mono (Kd.R_far (p := ⟨gb338, 3, none⟩) (Kd.R_far (p := ⟨gb338, 2, none⟩) (Kd.R_far (p := ⟨gb338, 1, none⟩) (Kd.R_far (p := ⟨gb338, 0, none⟩) (Kd.R_types HO332.out BK338.out (by decide)) (fun _ hk => hk.2) (.int .i64 t328)) (fun _ hk => hk.2) (.string t329)) (fun _ hk => hk.2) (.slice Ao63 t330.length co63)) (fun _ hk => hk.2) (.slice Ao64 t333.length co64)) (fun _ h_ => h_.1))) (Kd.R_base ho0) hb); have n3_ := Aside0.mk (Kd.R_mono (Kd.R_told (Kd.R_told (Kd.R_old (by (with_reducible repeat (first | apply Kd.R_alloc | apply Kd.R_drewN | apply Kd.R_drew)); exact (Kd.R_mono (Kd.R_far (p := ⟨gb338, 3, none⟩) (Kd.R_far (p := ⟨gb338, 2, none⟩) (Kd.R_far (p := ⟨gb338, 1, none⟩) (Kd.R_far (p := ⟨gb338, 0, none⟩) (Kd.R_mono HO335.out (fun k_ hk => (⟨hk, hk.2⟩ : _ ∧ k_ ≠ gb338))) (fun _ hk => hk.2) (.int .i64 t328)) (fun _ hk => hk.2) (.string t329)) (fun _ hk => hk.2) (.slice Ao63 t330.length co63)) (fun _ hk => hk.2) (.slice Ao64 t333.length co64)) (fun _ h_ => h_.1))) hb) (Kd.R_base ho0)) (Kd.R_base ho1)) (fun _ h_ => h_.1)); have n4_ := Aside0.mk (Kd.R_lower (Kd.R_new' (Kd.R_new' ho0 (Kd.R_lt (by (with_reducible repeat (first | apply Kd.R_alloc | apply Kd.R_drewN | apply Kd.R_drew)); exact (Kd.R_mono (Kd.R_far (p := ⟨gb338, 3, none⟩) (Kd.R_far (p := ⟨gb338, 2, none⟩) (Kd.R_far (p := ⟨gb338, 1, none⟩) (Kd.R_far (p := ⟨gb338, 0, none⟩) (Kd.R_types HO321.out BK338.out (by decide)) (fun _ hk => hk.2) (.int .i64 t328)) (fun _ hk => hk.2) (.string t329)) (fun _ hk => hk.2) (.slice Ao63 t330.length co63)) (fun _ hk => hk.2) (.slice Ao64 t333.length co64)) (fun _ h_ => h_.1))))) (Kd.R_lt (by (with_reducible repeat (first | apply Kd.R_alloc | apply Kd.R_drewN | apply Kd.R_drew)); exact (Kd.R_mono (Kd.R_far (p := ⟨gb338, 3, none⟩) (Kd.R_far (p := ⟨gb338, 2, none⟩) (Kd.R_far (p := ⟨gb338, 1, none⟩) (Kd.R_far (p := ⟨gb338, 0, none⟩) (Kd.R_types HO332.out BK338.out (by decide)) (fun _ hk => hk.2) (.int .i64 t328)) (fun _ hk => hk.2) (.string t329)) (fun _ hk => hk.2) (.slice Ao63 t330.length co63)) (fun _ hk => hk.2) (.slice Ao64 t333.length co64)) (fun _ h_ => h_.1))))) (below_size (by repeat (first | (with_reducible first | exact HB.out | apply below_alloc | apply pw_below_drewN | apply below_drew1 | refine below_set ?_ GE327.out | refine below_set ?_ GE338.out) | exact HB.out)))); have n5_ := Aside0.mk (Kd.R_lower (Kd.R_newB (Kd.R_newB (Kd.R_new' (Kd.R_new' (Kd.R_new' (Kd.R_new' ho1 (Kd.R_lt (by (with_reducible repeat (first | apply Kd.R_alloc | apply Kd.R_drewN | apply Kd.R_drew)); exact (Kd.R_mono (Kd.R_far (p := ⟨gb338, 3, none⟩) (Kd.R_far (p := ⟨gb338, 2, none⟩) (Kd.R_far (p := ⟨gb338, 1, none⟩) (Kd.R_far (p := ⟨gb338, 0, none⟩) (Kd.R_types HO321.out BK338.out (by decide)) (fun _ hk => hk.2) (.int .i64 t328)) (fun _ hk => hk.2) (.string t329)) (fun _ hk => hk.2) (.slice Ao63 t330.length co63)) (fun _ hk => hk.2) (.slice Ao64 t333.length co64)) (fun _ h_ => h_.1))))) (Kd.R_lt (by (with_reducible repeat (first | apply Kd.R_alloc | apply Kd.R_drewN | apply Kd.R_drew)); exact (Kd.R_mono (Kd.R_far (p := ⟨gb338, 3, none⟩) (Kd.R_far (p := ⟨gb338, 2, none⟩) (Kd.R_far (p := ⟨gb338, 1, none⟩) (Kd.R_far (p := ⟨gb338, 0, none⟩) (Kd.R_mono HO324.out (fun k_ hk => (⟨hk, hk.2⟩ : _ ∧ k_ ≠ gb338))) (fun _ hk => hk.2) (.int .i64 t328)) (fun _ hk => hk.2) (.string t329)) (fun _ hk => hk.2) (.slice Ao63 t330.length co63)) (fun _ hk => hk.2) (.slice Ao64 t333.length co64)) (fun _ h_ => h_.1))))) (Kd.R_lt (by (with_reducible repeat (first | apply Kd.R_alloc | apply Kd.R_drewN | apply Kd.R_drew)); exact (Kd.R_mono (Kd.R_far (p := ⟨gb338, 3, none⟩) (Kd.R_far (p := ⟨gb338, 2, none⟩) (Kd.R_far (p := ⟨gb338, 1, none⟩) (Kd.R_far (p := ⟨gb338, 0, none⟩) (Kd.R_types HO332.out BK338.out (by decide)) (fun _ hk => hk.2) (.int .i64 t328)) (fun _ hk => hk.2) (.string t329)) (fun _ hk => hk.2) (.slice Ao63 t330.length co63)) (fun _ hk => hk.2) (.slice Ao64 t333.length co64)) (fun _ h_ => h_.1))))) (Kd.R_lt (by (with_reducible repeat (first | apply Kd.R_alloc | apply Kd.R_drewN | apply Kd.R_drew)); exact (Kd.R_mono (Kd.R_far (p := ⟨gb338, 3, none⟩) (Kd.R_far (p := ⟨gb338, 2, none⟩) (Kd.R_far (p := ⟨gb338, 1, none⟩) (Kd.R_far (p := ⟨gb338, 0, none⟩) (Kd.R_mono HO335.out (fun k_ hk => (⟨hk, hk.2⟩ : _ ∧ k_ ≠ gb338))) (fun _ hk => hk.2) (.int .i64 t328)) (fun _ hk => hk.2) (.string t329)) (fun _ hk => hk.2) (.slice Ao63 t330.length co63)) (fun _ hk => hk.2) (.slice Ao64 t333.length co64)) (fun _ h_ => h_.1))))) (g := gb327) (o := .cells #[.int .i64 t317, .string t318, .slice Ao57 t319.length co57, .slice Ao58 t322.length co58] 38 (0, 0)) (by (with_reducible repeat (first | refine blk_drewN ?_ _ | refine blk_drew ?_ | refine blk_alloc ?_ _)); refine blk_far ?_ NB327_338.out _; (with_reducible repeat (first | refine blk_drewN ?_ _ | refine blk_drew ?_ | refine blk_alloc ?_ _)); refine blk_far ?_ NB327_338.out _; (with_reducible repeat (first | refine blk_drewN ?_ _ | refine blk_drew ?_ | refine blk_alloc ?_ _)); refine blk_far ?_ NB327_338.out _; (with_reducible repeat (first | refine blk_drewN ?_ _ | refine blk_drew ?_ | refine blk_alloc ?_ _)); refine blk_far ?_ NB327_338.out _; (with_reducible repeat (first | refine blk_drewN ?_ _ | refine blk_drew ?_ | refine blk_alloc ?_ _)); exact BK327.out)) (g := gb338) (o := .cells #[.int .i64 t328, .string t329, .slice Ao63 t330.length co63, .slice Ao64 t333.length co64] 38 (0, 0)) (by (with_reducible repeat (first | refine blk_drewN ?_ _ | refine blk_drew ?_ | refine blk_alloc ?_ _)); refine blk_put (cs := #[.int .i64 t328, .string t329, .slice Ao63 t330.length co63, .slice none 0 0]) ?_ 3 _ rfl; (with_reducible repeat (first | refine blk_drewN ?_ _ | refine blk_drew ?_ | refine blk_alloc ?_ _)); refine blk_put (cs := #[.int .i64 t328, .string t329, .slice none 0 0, .slice none 0 0]) ?_ 2 _ rfl; (with_reducible repeat (first | refine blk_drewN ?_ _ | refine blk_drew ?_ | refine blk_alloc ?_ _)); refine blk_put (cs := #[.int .i64 t328, .string (⟨#[]⟩ : ByteArray), .slice none 0 0, .slice none 0 0]) ?_ 1 _ rfl; (with_reducible repeat (first | refine blk_drewN ?_ _ | refine blk_drew ?_ | refine blk_alloc ?_ _)); refine blk_put (cs := #[.int .i64 0, .string (⟨#[]⟩ : ByteArray), .slice none 0 0, .slice none 0 0]) ?_ 0 _ rfl; (with_reducible repeat (first | refine blk_drewN ?_ _ | refine blk_drew ?_ | refine blk_alloc ?_ _)); exact BK338.out)) (below_size (by repeat (first | (with_reducible first | exact HB.out | apply below_alloc | apply pw_below_drewN | apply below_drew1 | refine below_set ?_ GE327.out | refine below_set ?_ GE338.out) | exact HB.out)))); have n6_ := Aside0.mk (blk_below (g := gb327) (o := .cells #[.int .i64 t317, .string t318, .slice Ao57 t319.length co57, .slice Ao58 t322.length co58] 38 (0, 0)) (by (with_reducible repeat (first | refine blk_drewN ?_ _ | refine blk_drew ?_ | refine blk_alloc ?_ _)); refine blk_far ?_ NB327_338.out _; (with_reducible repeat (first | refine blk_drewN ?_ _ | refine blk_drew ?_ | refine blk_alloc ?_ _)); refine blk_far ?_ NB327_338.out _; (with_reducible repeat (first | refine blk_drewN ?_ _ | refine blk_drew ?_ | refine blk_alloc ?_ _)); refine blk_far ?_ NB327_338.out _; (with_reducible repeat (first | refine blk_drewN ?_ _ | refine blk_drew ?_ | refine blk_alloc ?_ _)); refine blk_far ?_ NB327_338.out _; (with_reducible repeat (first | refine blk_drewN ?_ _ | refine blk_drew ?_ | refine blk_alloc ?_ _)); exact BK327.out) hb); have n7_ := Aside0.mk (blk_below (g := gb338) (o := .cells #[.int .i64 t328, .string t329, .slice Ao63 t330.length co63, .slice Ao64 t333.length co64] 38 (0, 0)) (by (with_reducible repeat (first | refine blk_drewN ?_ _ | refine blk_drew ?_ | refine blk_alloc ?_ _)); refine blk_put (cs := #[.int .i64 t328, .string t329, .slice Ao63 t330.length co63, .slice none 0 0]) ?_ 3 _ rfl; (with_reducible repeat (first | refine blk_drewN ?_ _ | refine blk_drew ?_ | refine blk_alloc ?_ _)); refine blk_put (cs := #[.int .i64 t328, .string t329, .slice none 0 0, .slice none 0 0]) ?_ 2 _ rfl; (with_reducible repeat (first | refine blk_drewN ?_ _ | refine blk_drew ?_ | refine blk_alloc ?_ _)); refine blk_put (cs := #[.int .i64 t328, .string (⟨#[]⟩ : ByteArray), .slice none 0 0, .slice none 0 0]) ?_ 1 _ rfl; (with_reducible repeat (first | refine blk_drewN ?_ _ | refine blk_drew ?_ | refine blk_alloc ?_ _)); refine blk_put (cs := #[.int .i64 0, .string (⟨#[]⟩ : ByteArray), .slice none 0 0, .slice none 0 0]) ?_ 0 _ rfl; (with_reducible repeat (first | refine blk_drewN ?_ _ | refine blk_drew ?_ | refine blk_alloc ?_ _)); exact BK338.out) hb); have n8_ := Aside0.mk (below_step (by repeat (first | (with_reducible first | exact HB.out | apply below_alloc | apply pw_below_drewN | apply below_drew1 | refine below_set ?_ GE327.out | refine below_set ?_ GE338.out) | exact HB.out)) hb); clear HO321; clear HO324; clear HO332; clear HO335; clear BK327; clear BK338; clear HB; have HO321 := n0_; have HO324 := n1_; have HO332 := n2_; have HO335 := n3_; have HO343 := n4_; have HO346 := n5_; have BK327 := n6_; have BK338 := n7_; have HB := n8_; clear n0_ n1_ n2_ n3_ n4_ n5_ n6_ n7_ n8_; (try clear hb); (try clear hb2); (try clear hk); (try clear hi); (try clear ho0); (try clear ho1)) | ((with_reducible refine gate_dst (N := 14) rfl ?_); refine box_event ?hg (N := 14) ?hd (cs := #[.int .i64 0, .string (⟨#[]⟩ : ByteArray), .slice none 0 0, .slice none 0 0]) (t := 38) ?hr ?_; (case hd => rfl); (case hg => rfl); (case hr => first | (go_simp; done) | (go_simp; rfl)); intro gb349 hg w66 hbox hb; have n0_ := Aside0.mk (Kd.R_below (by (with_reducible repeat (first | apply Kd.R_alloc | apply Kd.R_drewN | apply Kd.R_drew)); exact HO321.out) hb); have n1_ := Aside0.mk (Kd.R_below (Kd.R_elderB (by (with_reducible repeat (first | apply Kd.R_alloc | apply Kd.R_drewN | apply Kd.R_drew)); exact HO324.out) gb349 (Nat.le_of_eq hg.symm)) hb); have n2_ := Aside0.mk (Kd.R_below (by (with_reducible repeat (first | apply Kd.R_alloc | apply Kd.R_drewN | apply Kd.R_drew)); exact HO332.out) hb); have n3_ := Aside0.mk (Kd.R_below (Kd.R_elderB (by (with_reducible repeat (first | apply Kd.R_alloc | apply Kd.R_drewN | apply Kd.R_drew)); exact HO335.out) gb349 (Nat.le_of_eq hg.symm)) hb); have n4_ := Aside0.mk (Kd.R_below (by (with_reducible repeat (first | apply Kd.R_alloc | apply Kd.R_drewN | apply Kd.R_drew)); exact HO343.out) hb); have n5_ := Aside0.mk (Kd.R_below (Kd.R_elderB (by (with_reducible repeat (first | apply Kd.R_alloc | apply Kd.R_drewN | apply Kd.R_drew)); exact HO346.out) gb349 (Nat.le_of_eq hg.symm)) hb); have n6_ := Aside0.mk (blk_below (g := gb327) (o := .cells #[.int .i64 t317, .string t318, .slice Ao57 t319.length co57, .slice Ao58 t322.length co58] 38 (0, 0)) (by (with_reducible repeat (first | refine blk_drewN ?_ _ | refine blk_drew ?_ | refine blk_alloc ?_ _)); exact BK327.out) hb); have n7_ := Aside0.mk (blk_below (g := gb338) (o := .cells #[.int .i64 t328, .string t329, .slice Ao63 t330.length co63, .slice Ao64 t333.length co64] 38 (0, 0)) (by (with_reducible repeat (first | refine blk_drewN ?_ _ | refine blk_drew ?_ | refine blk_alloc ?_ _)); exact BK338.out) hb); have n8_ := Aside0.mk (below_step (by repeat (first | (with_reducible first | exact HB.out | apply below_alloc | apply pw_below_drewN | apply below_drew1 | refine below_set ?_ GE327.out | refine below_set ?_ GE338.out) | exact HB.out)) hb); have n9_ := Aside0.mk (hbox); have n10_ := Aside0.mk ((by rw [hg]; exact (below_size (by repeat (first | (with_reducible first | exact HB.out | apply below_alloc | apply pw_below_drewN | apply below_drew1 | refine below_set ?_ GE327.out | refine below_set ?_ GE338.out) | exact HB.out))) : w.heap.size ≤ gb349)); have n11_ := Aside0.mk ((by rw [hg]; exact (below_size (by repeat (first | (with_reducible first | exact HB.out | apply below_alloc | apply pw_below_drewN | apply below_drew1 | refine below_set ?_ GE327.out | refine below_set ?_ GE338.out) | exact HB.out))) : w.heap.size ≤ gb349)); have n12_ := Aside0.mk ((by rw [hg]; exact Nat.ne_of_lt (blk_lt (g := gb327) (o := .cells #[.int .i64 t317, .string t318, .slice Ao57 t319.length co57, .slice Ao58 t322.length co58] 38 (0, 0)) (by (with_reducible repeat (first | refine blk_drewN ?_ _ | refine blk_drew ?_ | refine blk_alloc ?_ _)); exact BK327.out)) : gb327 ≠ gb349)); have n13_ := Aside0.mk ((by rw [hg]; exact Nat.ne_of_gt (blk_lt (g := gb327) (o := .cells #[.int .i64 t317, .string t318, .slice Ao57 t319.length co57, .slice Ao58 t322.length co58] 38 (0, 0)) (by (with_reducible repeat (first | refine blk_drewN ?_ _ | refine blk_drew ?_ | refine blk_alloc ?_ _)); exact BK327.out)) : gb349 ≠ gb327)); have n14_ := Aside0.mk ((by rw [hg]; exact Nat.ne_of_lt (blk_lt (g := gb338) (o := .cells #[.int .i64 t328, .string t329, .slice Ao63 t330.length co63, .slice Ao64 t333.length co64] 38 (0, 0)) (by (with_reducible repeat (first | refine blk_drewN ?_ _ | refine blk_drew ?_ | refine blk_alloc ?_ _)); exact BK338.out)) : gb338 ≠ gb349)); have n15_ := Aside0.mk ((by rw [hg]; exact Nat.ne_of_gt (blk_lt (g := gb338) (o := .cells #[.int .i64 t328, .string t329, .slice Ao63 t330.length co63, .slice Ao64 t333.length co64] 38 (0, 0)) (by (with_reducible repeat (first | refine blk_drewN ?_ _ | refine blk_drew ?_ | refine blk_alloc ?_ _)); exact BK338.out)) : gb349 ≠ gb338)); clear HO321; clear HO324; clear HO332; clear HO335; clear HO343; clear HO346; clear BK327; clear BK338; clear HB; have HO321 := n0_; have HO324 := n1_; have HO332 := n2_; have HO335 := n3_; have HO343 := n4_; have HO346 := n5_; have BK327 := n6_; have BK338 := n7_; have HB := n8_; have BK349 := n9_; have GW349 := n10_; have GE349 := n11_; have NB327_349 := n12_; have NB349_327 := n13_; have NB338_349 := n14_; have NB349_338 := n15_; clear n0_ n1_ n2_ n3_ n4_ n5_ n6_ n7_ n8_ n9_ n10_ n11_ n12_ n13_ n14_ n15_; clear hb hbox hg; have hnb67 := NB349_327.out; have hnc67 := NB327_349.out; have hnb68 := NB349_338.out; have hnc68 := NB338_349.out; have hcz69_0 : w66.cell? ⟨gb349, 0, none⟩ = some (.int .i64 0) := (blk_cell BK349.out 0).trans rfl; have hcz69_1 : w66.cell? ⟨gb349, 1, none⟩ = some (.string (⟨#[]⟩ : ByteArray)) := (blk_cell BK349.out 1).trans rfl; have hcz69_2 : w66.cell? ⟨gb349, 2, none⟩ = some (.slice none 0 0) := (blk_cell BK349.out 2).trans rfl; have hcz69_3 : w66.cell? ⟨gb349, 3, none⟩ = some (.slice none 0 0) := (blk_cell BK349.out 3).trans rfl; have hfz69_0 := blk_frozen BK349.out 0; have hfz69_1 := blk_frozen BK349.out 1; have hfz69_2 := blk_frozen BK349.out 2; have hfz69_3 := blk_frozen BK349.out 3; obtain ⟨Ao70, co70, eo70⟩ := Kd.R_slice HO343.out; subst eo70; obtain ⟨Ao71, co71, eo71⟩ := Kd.R_slice HO346.out; subst eo71))
   go_ret
   exact ⟨by first | rfl | (simp [errW_none, errW_some] <;> rfl) | (simp [*, errW_none, errW_some] <;> rfl) | (simp [errW_none, errW_some] <;> exact ⟨rfl, rfl⟩) | (simp [*, errW_none, errW_some] <;> exact ⟨rfl, rfl⟩), by repeat (first | (with_reducible first | exact HB.out | apply below_alloc | apply pw_below_drewN | apply below_drew1 | refine below_set ?_ GE327.out | refine below_set ?_ GE338.out | refine below_set ?_ GE349.out) | exact HB.out)⟩
  replace c11 := Bool.eq_false_iff.mpr c11
  subst c11
  have H1 : (some true) = some r := by rw [if_neg (show ¬ (false = true) by decide)] at H; exact H
  clear H
  have H := H1
  clear H1
  obtain rfl := Option.some.inj H
  go_enter Tryd.func6, Tryd.ntmps6
  go_wp2_with (first | ((with_reducible refine gate_callee (f := 17) rfl ?_); refine goesL_ (some 29) rfl rfl Tryd.func17 (by kernel_rfl) rfl #[.string a0, .int .i64 (Int.tmod (wrap64 (a1)) 300)] rfl (by (try simp only [List.map_toArray, List.map_cons, List.map_nil]); first | done | rfl | (simp only [List.length_drop, List.length_take]; rfl)) ?_; (with_reducible refine (impl_FjValueAt.calls k a0 (Int.tmod (wrap64 (a1)) 300) t317 t318 t319 t322 t325 false _ ?side1 ?side2 A6.out).mono ?_); (case side1 => repeat (first | exact Kd.C_below HRG0.out (by repeat (first | (with_reducible first | exact HB.out | apply below_alloc | apply pw_below_drewN | apply below_drew1) | exact HB.out)) | exact HRG0.out | (with_reducible refine Kd.C_alloc ?_ _) | (with_reducible refine Kd.C_drewN ?_ _) | (with_reducible refine Kd.C_drew ?_))); (case side2 => repeat (first | exact Kd.C_below HRG1.out (by repeat (first | (with_reducible first | exact HB.out | apply below_alloc | apply pw_below_drewN | apply below_drew1) | exact HB.out)) | exact HRG1.out | (with_reducible refine Kd.C_alloc ?_ _) | (with_reducible refine Kd.C_drewN ?_ _) | (with_reducible refine Kd.C_drew ?_))); rintro e w72 ⟨v320, v323, rfl, ho0, ho1, hb⟩; refine ⟨_, rfl, ?_⟩; have n0_ := Aside0.mk (Kd.R_lower ho0 (below_size (by repeat (first | (with_reducible first | exact HB.out | apply below_alloc | apply pw_below_drewN | apply below_drew1) | exact HB.out)))); have n1_ := Aside0.mk (Kd.R_lower ho1 (below_size (by repeat (first | (with_reducible first | exact HB.out | apply below_alloc | apply pw_below_drewN | apply below_drew1) | exact HB.out)))); have n2_ := Aside0.mk (below_step (by repeat (first | (with_reducible first | exact HB.out | apply below_alloc | apply pw_below_drewN | apply below_drew1) | exact HB.out)) hb); clear HB; have HO321 := n0_; have HO324 := n1_; have HB := n2_; clear n0_ n1_ n2_; (try clear hb); (try clear hb2); (try clear hk); (try clear hi); (try clear ho0); (try clear ho1)) | ((with_reducible refine gate_dst (N := 8) rfl ?_); refine box_event ?hg (N := 8) ?hd (cs := #[.int .i64 0, .string (⟨#[]⟩ : ByteArray), .slice none 0 0, .slice none 0 0]) (t := 38) ?hr ?_; (case hd => rfl); (case hg => rfl); (case hr => first | (go_simp; done) | (go_simp; rfl)); intro gb327 hg w73 hbox hb; have n0_ := Aside0.mk (Kd.R_below (by (with_reducible repeat (first | apply Kd.R_alloc | apply Kd.R_drewN | apply Kd.R_drew)); exact HO321.out) hb); have n1_ := Aside0.mk (Kd.R_below (Kd.R_elderB (by (with_reducible repeat (first | apply Kd.R_alloc | apply Kd.R_drewN | apply Kd.R_drew)); exact HO324.out) gb327 (Nat.le_of_eq hg.symm)) hb); have n2_ := Aside0.mk (below_step (by repeat (first | (with_reducible first | exact HB.out | apply below_alloc | apply pw_below_drewN | apply below_drew1) | exact HB.out)) hb); have n3_ := Aside0.mk (hbox); have n4_ := Aside0.mk ((by rw [hg]; exact (below_size (by repeat (first | (with_reducible first | exact HB.out | apply below_alloc | apply pw_below_drewN | apply below_drew1) | exact HB.out))) : w.heap.size ≤ gb327)); have n5_ := Aside0.mk ((by rw [hg]; exact (below_size (by repeat (first | (with_reducible first | exact HB.out | apply below_alloc | apply pw_below_drewN | apply below_drew1) | exact HB.out))) : w.heap.size ≤ gb327)); clear HO321; clear HO324; clear HB; have HO321 := n0_; have HO324 := n1_; have HB := n2_; have BK327 := n3_; have GW327 := n4_; have GE327 := n5_; clear n0_ n1_ n2_ n3_ n4_ n5_; clear hb hbox hg; have hcz74_0 : w73.cell? ⟨gb327, 0, none⟩ = some (.int .i64 0) := (blk_cell BK327.out 0).trans rfl; have hcz74_1 : w73.cell? ⟨gb327, 1, none⟩ = some (.string (⟨#[]⟩ : ByteArray)) := (blk_cell BK327.out 1).trans rfl; have hcz74_2 : w73.cell? ⟨gb327, 2, none⟩ = some (.slice none 0 0) := (blk_cell BK327.out 2).trans rfl; have hcz74_3 : w73.cell? ⟨gb327, 3, none⟩ = some (.slice none 0 0) := (blk_cell BK327.out 3).trans rfl; have hfz74_0 := blk_frozen BK327.out 0; have hfz74_1 := blk_frozen BK327.out 1; have hfz74_2 := blk_frozen BK327.out 2; have hfz74_3 := blk_frozen BK327.out 3; obtain ⟨Ao75, co75, eo75⟩ := Kd.R_slice HO321.out; subst eo75; obtain ⟨Ao76, co76, eo76⟩ := Kd.R_slice HO324.out; subst eo76) | ((with_reducible refine gate_callee (f := 17) rfl ?_); refine goesL_ (some 40) rfl rfl Tryd.func17 (by kernel_rfl) rfl #[.string a0, .int .i64 (Int.tmod (wrap64 (a2)) (wrap64 ((Int.tmod (wrap64 (a1)) 300) + 1)))] rfl (by (try simp only [List.map_toArray, List.map_cons, List.map_nil]); first | done | rfl | (simp only [List.length_drop, List.length_take]; rfl)) ?_; (with_reducible refine (impl_FjValueAt.calls k a0 (Int.tmod (wrap64 (a2)) (wrap64 ((Int.tmod (wrap64 (a1)) 300) + 1))) t328 t329 t330 t333 t336 t337 _ ?side1 ?side2 A8.out).mono ?_); (case side1 => repeat (first | exact Kd.C_below HRG0.out (by repeat (first | (with_reducible first | exact HB.out | apply below_alloc | apply pw_below_drewN | apply below_drew1 | refine below_set ?_ GE327.out) | exact HB.out)) | exact HRG0.out | (with_reducible refine Kd.C_alloc ?_ _) | (with_reducible refine Kd.C_drewN ?_ _) | (with_reducible refine Kd.C_drew ?_))); (case side2 => repeat (first | exact Kd.C_below HRG1.out (by repeat (first | (with_reducible first | exact HB.out | apply below_alloc | apply pw_below_drewN | apply below_drew1 | refine below_set ?_ GE327.out) | exact HB.out)) | exact HRG1.out | (with_reducible refine Kd.C_alloc ?_ _) | (with_reducible refine Kd.C_drewN ?_ _) | (with_reducible refine Kd.C_drew ?_))); rintro e w77 ⟨v331, v334, rfl, ho0, ho1, hb⟩; refine ⟨_, rfl, ?_⟩; have n0_ := Aside0.mk (Kd.R_elder' (by (with_reducible repeat (first | apply Kd.R_alloc | apply Kd.R_drewN | apply Kd.R_drew)); exact (Kd.R_mono (Kd.R_far (p := ⟨gb327, 3, none⟩) (Kd.R_far (p := ⟨gb327, 2, none⟩) (Kd.R_far (p := ⟨gb327, 1, none⟩) (Kd.R_far (p := ⟨gb327, 0, none⟩) (Kd.R_types HO321.out BK327.out (by decide)) (fun _ hk => hk.2) (.int .i64 t317)) (fun _ hk => hk.2) (.string t318)) (fun _ hk => hk.2) (.slice Ao75 t319.length co75)) (fun _ hk => hk.2) (.slice Ao76 t322.length co76)) (fun _ h_ => h_.1))) (Kd.R_base ho0) hb); have n1_ := Aside0.mk (Kd.R_mono (Kd.R_told (Kd.R_told (Kd.R_old (by (with_reducible repeat (first | apply Kd.R_alloc | apply Kd.R_drewN | apply Kd.R_drew)); exact (Kd.R_mono (Kd.R_far (p := ⟨gb327, 3, none⟩) (Kd.R_far (p := ⟨gb327, 2, none⟩) (Kd.R_far (p := ⟨gb327, 1, none⟩) (Kd.R_far (p := ⟨gb327, 0, none⟩) (Kd.R_mono HO324.out (fun k_ hk => (⟨hk, hk.2⟩ : _ ∧ k_ ≠ gb327))) (fun _ hk => hk.2) (.int .i64 t317)) (fun _ hk => hk.2) (.string t318)) (fun _ hk => hk.2) (.slice Ao75 t319.length co75)) (fun _ hk => hk.2) (.slice Ao76 t322.length co76)) (fun _ h_ => h_.1))) hb) (Kd.R_base ho0)) (Kd.R_base ho1)) (fun _ h_ => h_.1)); have n2_ := Aside0.mk (Kd.R_lower (Kd.R_new' ho0 (Kd.R_lt (by (with_reducible repeat (first | apply Kd.R_alloc | apply Kd.R_drewN | apply Kd.R_drew)); exact (Kd.R_mono (Kd.R_far (p := ⟨gb327, 3, none⟩) (Kd.R_far (p := ⟨gb327, 2, none⟩) (Kd.R_far (p := ⟨gb327, 1, none⟩) (Kd.R_far (p := ⟨gb327, 0, none⟩) (Kd.R_types HO321.out BK327.out (by decide)) (fun _ hk => hk.2) (.int .i64 t317)) (fun _ hk => hk.2) (.string t318)) (fun _ hk => hk.2) (.slice Ao75 t319.length co75)) (fun _ hk => hk.2) (.slice Ao76 t322.length co76)) (fun _ h_ => h_.1))))) (below_size (by repeat (first | (with_reducible first | exact HB.out | apply below_alloc | apply pw_below_drewN | apply below_drew1 | refine below_set ?_ GE327.out) | exact HB.out)))); have n3_ := Aside0.mk (Kd.R_lower (Kd.R_newB (Kd.R_new' (Kd.R_new' ho1 (Kd.R_lt (by (with_reducible repeat (first | apply Kd.R_alloc | apply Kd.R_drewN | apply Kd.R_drew)); exact (Kd.R_mono (Kd.R_far (p := ⟨gb327, 3, none⟩) (Kd.R_far (p := ⟨gb327, 2, none⟩) (Kd.R_far (p := ⟨gb327, 1, none⟩) (Kd.R_far (p := ⟨gb327, 0, none⟩) (Kd.R_types HO321.out BK327.out (by decide)) (fun _ hk => hk.2) (.int .i64 t317)) (fun _ hk => hk.2) (.string t318)) (fun _ hk => hk.2) (.slice Ao75 t319.length co75)) (fun _ hk => hk.2) (.slice Ao76 t322.length co76)) (fun _ h_ => h_.1))))) (Kd.R_lt (by (with_reducible repeat (first | apply Kd.R_alloc | apply Kd.R_drewN | apply Kd.R_drew)); exact (Kd.R_mono (Kd.R_far (p := ⟨gb327, 3, none⟩) (Kd.R_far (p := ⟨gb327, 2, none⟩) (Kd.R_far (p := ⟨gb327, 1, none⟩) (Kd.R_far (p := ⟨gb327, 0, none⟩) (Kd.R_mono HO324.out (fun k_ hk => (⟨hk, hk.2⟩ : _ ∧ k_ ≠ gb327))) (fun _ hk => hk.2) (.int .i64 t317)) (fun _ hk => hk.2) (.string t318)) (fun _ hk => hk.2) (.slice Ao75 t319.length co75)) (fun _ hk => hk.2) (.slice Ao76 t322.length co76)) (fun _ h_ => h_.1))))) (g := gb327) (o := .cells #[.int .i64 t317, .string t318, .slice Ao75 t319.length co75, .slice Ao76 t322.length co76] 38 (0, 0)) (by (with_reducible repeat (first | refine blk_drewN ?_ _ | refine blk_drew ?_ | refine blk_alloc ?_ _)); refine blk_put (cs := #[.int .i64 t317, .string t318, .slice Ao75 t319.length co75, .slice none 0 0]) ?_ 3 _ rfl; (with_reducible repeat (first | refine blk_drewN ?_ _ | refine blk_drew ?_ | refine blk_alloc ?_ _)); refine blk_put (cs := #[.int .i64 t317, .string t318, .slice none 0 0, .slice none 0 0]) ?_ 2 _ rfl; (with_reducible repeat (first | refine blk_drewN ?_ _ | refine blk_drew ?_ | refine blk_alloc ?_ _)); refine blk_put (cs := #[.int .i64 t317, .string (⟨#[]⟩ : ByteArray), .slice none 0 0, .slice none 0 0]) ?_ 1 _ rfl; (with_reducible repeat (first | refine blk_drewN ?_ _ | refine blk_drew ?_ | refine blk_alloc ?_ _)); refine blk_put (cs := #[.int .i64 0, .string (⟨#[]⟩ : ByteArray), .slice none 0 0, .slice none 0 0]) ?_ 0 _ rfl; (with_reducible repeat (first | refine blk_drewN ?_ _ | refine blk_drew ?_ | refine blk_alloc ?_ _)); exact BK327.out)) (below_size (by repeat (first | (with_reducible first | exact HB.out | apply below_alloc | apply pw_below_drewN | apply below_drew1 | refine below_set ?_ GE327.out) | exact HB.out)))); have n4_ := Aside0.mk (blk_below (g := gb327) (o := .cells #[.int .i64 t317, .string t318, .slice Ao75 t319.length co75, .slice Ao76 t322.length co76] 38 (0, 0)) (by (with_reducible repeat (first | refine blk_drewN ?_ _ | refine blk_drew ?_ | refine blk_alloc ?_ _)); refine blk_put (cs := #[.int .i64 t317, .string t318, .slice Ao75 t319.length co75, .slice none 0 0]) ?_ 3 _ rfl; (with_reducible repeat (first | refine blk_drewN ?_ _ | refine blk_drew ?_ | refine blk_alloc ?_ _)); refine blk_put (cs := #[.int .i64 t317, .string t318, .slice none 0 0, .slice none 0 0]) ?_ 2 _ rfl; (with_reducible repeat (first | refine blk_drewN ?_ _ | refine blk_drew ?_ | refine blk_alloc ?_ _)); refine blk_put (cs := #[.int .i64 t317, .string (⟨#[]⟩ : ByteArray), .slice none 0 0, .slice none 0 0]) ?_ 1 _ rfl; (with_reducible repeat (first | refine blk_drewN ?_ _ | refine blk_drew ?_ | refine blk_alloc ?_ _)); refine blk_put (cs := #[.int .i64 0, .string (⟨#[]⟩ : ByteArray), .slice none 0 0, .slice none 0 0]) ?_ 0 _ rfl; (with_reducible repeat (first | refine blk_drewN ?_ _ | refine blk_drew ?_ | refine blk_alloc ?_ _)); exact BK327.out) hb); have n5_ := Aside0.mk (below_step (by repeat (first | (with_reducible first | exact HB.out | apply below_alloc | apply pw_below_drewN | apply below_drew1 | refine below_set ?_ GE327.out) | exact HB.out)) hb); clear HO321; clear HO324; clear BK327; clear HB; have HO321 := n0_; have HO324 := n1_; have HO332 := n2_; have HO335 := n3_; have BK327 := n4_; have HB := n5_; clear n0_ n1_ n2_ n3_ n4_ n5_; (try clear hb); (try clear hb2); (try clear hk); (try clear hi); (try clear ho0); (try clear ho1)) | ((with_reducible refine gate_dst (N := 11) rfl ?_); refine box_event ?hg (N := 11) ?hd (cs := #[.int .i64 0, .string (⟨#[]⟩ : ByteArray), .slice none 0 0, .slice none 0 0]) (t := 38) ?hr ?_; (case hd => rfl); (case hg => rfl); (case hr => first | (go_simp; done) | (go_simp; rfl)); intro gb338 hg w78 hbox hb; have n0_ := Aside0.mk (Kd.R_below (by (with_reducible repeat (first | apply Kd.R_alloc | apply Kd.R_drewN | apply Kd.R_drew)); exact HO321.out) hb); have n1_ := Aside0.mk (Kd.R_below (Kd.R_elderB (by (with_reducible repeat (first | apply Kd.R_alloc | apply Kd.R_drewN | apply Kd.R_drew)); exact HO324.out) gb338 (Nat.le_of_eq hg.symm)) hb); have n2_ := Aside0.mk (Kd.R_below (by (with_reducible repeat (first | apply Kd.R_alloc | apply Kd.R_drewN | apply Kd.R_drew)); exact HO332.out) hb); have n3_ := Aside0.mk (Kd.R_below (Kd.R_elderB (by (with_reducible repeat (first | apply Kd.R_alloc | apply Kd.R_drewN | apply Kd.R_drew)); exact HO335.out) gb338 (Nat.le_of_eq hg.symm)) hb); have n4_ := Aside0.mk (blk_below (g := gb327) (o := .cells #[.int .i64 t317, .string t318, .slice Ao75 t319.length co75, .slice Ao76 t322.length co76] 38 (0, 0)) (by (with_reducible repeat (first | refine blk_drewN ?_ _ | refine blk_drew ?_ | refine blk_alloc ?_ _)); exact BK327.out) hb); have n5_ := Aside0.mk (below_step (by repeat (first | (with_reducible first | exact HB.out | apply below_alloc | apply pw_below_drewN | apply below_drew1 | refine below_set ?_ GE327.out) | exact HB.out)) hb); have n6_ := Aside0.mk (hbox); have n7_ := Aside0.mk ((by rw [hg]; exact (below_size (by repeat (first | (with_reducible first | exact HB.out | apply below_alloc | apply pw_below_drewN | apply below_drew1 | refine below_set ?_ GE327.out) | exact HB.out))) : w.heap.size ≤ gb338)); have n8_ := Aside0.mk ((by rw [hg]; exact (below_size (by repeat (first | (with_reducible first | exact HB.out | apply below_alloc | apply pw_below_drewN | apply below_drew1 | refine below_set ?_ GE327.out) | exact HB.out))) : w.heap.size ≤ gb338)); have n9_ := Aside0.mk ((by rw [hg]; exact Nat.ne_of_lt (blk_lt (g := gb327) (o := .cells #[.int .i64 t317, .string t318, .slice Ao75 t319.length co75, .slice Ao76 t322.length co76] 38 (0, 0)) (by (with_reducible repeat (first | refine blk_drewN ?_ _ | refine blk_drew ?_ | refine blk_alloc ?_ _)); exact BK327.out)) : gb327 ≠ gb338)); have n10_ := Aside0.mk ((by rw [hg]; exact Nat.ne_of_gt (blk_lt (g := gb327) (o := .cells #[.int .i64 t317, .string t318, .slice Ao75 t319.length co75, .slice Ao76 t322.length co76] 38 (0, 0)) (by (with_reducible repeat (first | refine blk_drewN ?_ _ | refine blk_drew ?_ | refine blk_alloc ?_ _)); exact BK327.out)) : gb338 ≠ gb327)); clear HO321; clear HO324; clear HO332; clear HO335; clear BK327; clear HB; have HO321 := n0_; have HO324 := n1_; have HO332 := n2_; have HO335 := n3_; have BK327 := n4_; have HB := n5_; have BK338 := n6_; have GW338 := n7_; have GE338 := n8_; have NB327_338 := n9_; have NB338_327 := n10_; clear n0_ n1_ n2_ n3_ n4_ n5_ n6_ n7_ n8_ n9_ n10_; clear hb hbox hg; have hnb79 := NB338_327.out; have hnc79 := NB327_338.out; have hcz80_0 : w78.cell? ⟨gb338, 0, none⟩ = some (.int .i64 0) := (blk_cell BK338.out 0).trans rfl; have hcz80_1 : w78.cell? ⟨gb338, 1, none⟩ = some (.string (⟨#[]⟩ : ByteArray)) := (blk_cell BK338.out 1).trans rfl; have hcz80_2 : w78.cell? ⟨gb338, 2, none⟩ = some (.slice none 0 0) := (blk_cell BK338.out 2).trans rfl; have hcz80_3 : w78.cell? ⟨gb338, 3, none⟩ = some (.slice none 0 0) := (blk_cell BK338.out 3).trans rfl; have hfz80_0 := blk_frozen BK338.out 0; have hfz80_1 := blk_frozen BK338.out 1; have hfz80_2 := blk_frozen BK338.out 2; have hfz80_3 := blk_frozen BK338.out 3; obtain ⟨Ao81, co81, eo81⟩ := Kd.R_slice HO332.out; subst eo81; obtain ⟨Ao82, co82, eo82⟩ := Kd.R_slice HO335.out; subst eo82) | ((with_reducible refine gate_callee (f := 17) rfl ?_); refine goesL_ (some 45) rfl rfl Tryd.func17 (by kernel_rfl) rfl #[.string (⟨#[49]⟩ : ByteArray), .int .i64 299] rfl (by (try simp only [List.map_toArray, List.map_cons, List.map_nil]); first | done | rfl | (simp only [List.length_drop, List.length_take]; rfl)) ?_; (with_reducible refine (impl_FjValueAt.calls k (⟨#[49]⟩ : ByteArray) 299 t339 t340 t341 t344 t347 true _ ?side1 ?side2 A9.out).mono ?_); (case side1 => repeat (first | exact Kd.C_below HRG0.out (by repeat (first | (with_reducible first | exact HB.out | apply below_alloc | apply pw_below_drewN | apply below_drew1 | refine below_set ?_ GE327.out | refine below_set ?_ GE338.out) | exact HB.out)) | exact HRG0.out | (with_reducible refine Kd.C_alloc ?_ _) | (with_reducible refine Kd.C_drewN ?_ _) | (with_reducible refine Kd.C_drew ?_))); (case side2 => repeat (first | exact Kd.C_below HRG1.out (by repeat (first | (with_reducible first | exact HB.out | apply below_alloc | apply pw_below_drewN | apply below_drew1 | refine below_set ?_ GE327.out | refine below_set ?_ GE338.out) | exact HB.out)) | exact HRG1.out | (with_reducible refine Kd.C_alloc ?_ _) | (with_reducible refine Kd.C_drewN ?_ _) | (with_reducible refine Kd.C_drew ?_))); rintro e w83 ⟨v342, v345, rfl, ho0, ho1, hb⟩; refine ⟨_, rfl, ?_⟩; have n0_ := Aside0.mk (Kd.R_elder' (by (with_reducible repeat (first | apply Kd.R_alloc | apply Kd.R_drewN | apply Kd.R_drew)); exact (Kd.R_mono (Kd.R_far (p := ⟨gb338, 3, none⟩) (Kd.R_far (p := ⟨gb338, 2, none⟩) (Kd.R_far (p := ⟨gb338, 1, none⟩) (Kd.R_far (p := ⟨gb338, 0, none⟩) (Kd.R_types HO321.out BK338.out (by decide)) (fun _ hk => hk.2) (.int .i64 t328)) (fun _ hk => hk.2) (.string t329)) (fun _ hk => hk.2) (.slice Ao81 t330.length co81)) (fun _ hk => hk.2) (.slice Ao82 t333.length co82)) (fun _ h_ => h_.1))) (Kd.R_base ho0) hb); have n1_ := Aside0.mk (Kd.R_mono (Kd.R_told (Kd.R_told (Kd.R_old (by (with_reducible repeat (first | apply Kd.R_alloc | apply Kd.R_drewN | apply Kd.R_drew)); exact (Kd.R_mono (Kd.R_far (p := ⟨gb338, 3, none⟩) (Kd.R_far (p := ⟨gb338, 2, none⟩) (Kd.R_far (p := ⟨gb338, 1, none⟩) (Kd.R_far (p := ⟨gb338, 0, none⟩) (Kd.R_mono HO324.out (fun k_ hk => (⟨hk, hk.2⟩ : _ ∧ k_ ≠ gb338))) (fun _ hk => hk.2) (.int .i64 t328)) (fun _ hk => hk.2) (.string t329)) (fun _ hk => hk.2) (.slice Ao81 t330.length co81)) (fun _ hk => hk.2) (.slice Ao82 t333.length co82)) (fun _ h_ => h_.1))) hb) (Kd.R_base ho0)) (Kd.R_base ho1)) (fun _ h_ => h_.1)); have n2_ := Aside0.mk (Kd.R_elder' (by (with_reducible repeat (first | apply Kd.R_alloc | apply Kd.R_drewN | apply Kd.R_drew)); exact (Kd.R_mono (Kd.R_far (p := ⟨gb338, 3, none⟩) (Kd.R_far (p := ⟨gb338, 2, none⟩) (Kd.R_far (p := ⟨gb338, 1, none⟩) (Kd.R_far (p := ⟨gb338, 0, none⟩) (Kd.R_types HO332.out BK338.out (by decide)) (fun _ hk => hk.2) (.int .i64 t328)) (fun _ hk => hk.2) (.string t329)) (fun _ hk => hk.2) (.slice Ao81 t330.length co81)) (fun _ hk => hk.2) (.slice Ao82 t333.length co82)) (fun _ h_ => h_.1))) (Kd.R_base ho0) hb); have n3_ := Aside0.mk (Kd.R_mono (Kd.R_told (Kd.R_told (Kd.R_old (by (with_reducible repeat (first | apply Kd.R_alloc | apply Kd.R_drewN | apply Kd.R_drew)); exact (Kd.R_mono (Kd.R_far (p := ⟨gb338, 3, none⟩) (Kd.R_far (p := ⟨gb338, 2, none⟩) (Kd.R_far (p := ⟨gb338, 1, none⟩) (Kd.R_far (p := ⟨gb338, 0, none⟩) (Kd.R_mono HO335.out (fun k_ hk => (⟨hk, hk.2⟩ : _ ∧ k_ ≠ gb338))) (fun _ hk => hk.2) (.int .i64 t328)) (fun _ hk => hk.2) (.string t329)) (fun _ hk => hk.2) (.slice Ao81 t330.length co81)) (fun _ hk => hk.2) (.slice Ao82 t333.length co82)) (fun _ h_ => h_.1))) hb) (Kd.R_base ho0)) (Kd.R_base ho1)) (fun _ h_ => h_.1)); have n4_ := Aside0.mk (Kd.R_lower (Kd.R_new' (Kd.R_new' ho0 (Kd.R_lt (by (with_reducible repeat (first | apply Kd.R_alloc | apply Kd.R_drewN | apply Kd.R_drew)); exact (Kd.R_mono (Kd.R_far (p := ⟨gb338, 3, none⟩) (Kd.R_far (p := ⟨gb338, 2, none⟩) (Kd.R_far (p := ⟨gb338, 1, none⟩) (Kd.R_far (p := ⟨gb338, 0, none⟩) (Kd.R_types HO321.out BK338.out (by decide)) (fun _ hk => hk.2) (.int .i64 t328)) (fun _ hk => hk.2) (.string t329)) (fun _ hk => hk.2) (.slice Ao81 t330.length co81)) (fun _ hk => hk.2) (.slice Ao82 t333.length co82)) (fun _ h_ => h_.1))))) (Kd.R_lt (by (with_reducible repeat (first | apply Kd.R_alloc | apply Kd.R_drewN | apply Kd.R_drew)); exact (Kd.R_mono (Kd.R_far (p := ⟨gb338, 3, none⟩) (Kd.R_far (p := ⟨gb338, 2, none⟩) (Kd.R_far (p := ⟨gb338, 1, none⟩) (Kd.R_far (p := ⟨gb338, 0, none⟩) (Kd.R_types HO332.out BK338.out (by decide)) (fun _ hk => hk.2) (.int .i64 t328)) (fun _ hk => hk.2) (.string t329)) (fun _ hk => hk.2) (.slice Ao81 t330.length co81)) (fun _ hk => hk.2) (.slice Ao82 t333.length co82)) (fun _ h_ => h_.1))))) (below_size (by repeat (first | (with_reducible first | exact HB.out | apply below_alloc | apply pw_below_drewN | apply below_drew1 | refine below_set ?_ GE327.out | refine below_set ?_ GE338.out) | exact HB.out)))); have n5_ := Aside0.mk (Kd.R_lower (Kd.R_newB (Kd.R_newB (Kd.R_new' (Kd.R_new' (Kd.R_new' (Kd.R_new' ho1 (Kd.R_lt (by (with_reducible repeat (first | apply Kd.R_alloc | apply Kd.R_drewN | apply Kd.R_drew)); exact (Kd.R_mono (Kd.R_far (p := ⟨gb338, 3, none⟩) (Kd.R_far (p := ⟨gb338, 2, none⟩) (Kd.R_far (p := ⟨gb338, 1, none⟩) (Kd.R_far (p := ⟨gb338, 0, none⟩) (Kd.R_types HO321.out BK338.out (by decide)) (fun _ hk => hk.2) (.int .i64 t328)) (fun _ hk => hk.2) (.string t329)) (fun _ hk => hk.2) (.slice Ao81 t330.length co81)) (fun _ hk => hk.2) (.slice Ao82 t333.length co82)) (fun _ h_ => h_.1))))) (Kd.R_lt (by (with_reducible repeat (first | apply Kd.R_alloc | apply Kd.R_drewN | apply Kd.R_drew)); exact (Kd.R_mono (Kd.R_far (p := ⟨gb338, 3, none⟩) (Kd.R_far (p := ⟨gb338, 2, none⟩) (Kd.R_far (p := ⟨gb338, 1, none⟩) (Kd.R_far (p := ⟨gb338, 0, none⟩) (Kd.R_mono HO324.out (fun k_ hk => (⟨hk, hk.2⟩ : _ ∧ k_ ≠ gb338))) (fun _ hk => hk.2) (.int .i64 t328)) (fun _ hk => hk.2) (.string t329)) (fun _ hk => hk.2) (.slice Ao81 t330.length co81)) (fun _ hk => hk.2) (.slice Ao82 t333.length co82)) (fun _ h_ => h_.1))))) (Kd.R_lt (by (with_reducible repeat (first | apply Kd.R_alloc | apply Kd.R_drewN | apply Kd.R_drew)); exact (Kd.R_mono (Kd.R_far (p := ⟨gb338, 3, none⟩) (Kd.R_far (p := ⟨gb338, 2, none⟩) (Kd.R_far (p := ⟨gb338, 1, none⟩) (Kd.R_far (p := ⟨gb338, 0, none⟩) (Kd.R_types HO332.out BK338.out (by decide)) (fun _ hk => hk.2) (.int .i64 t328)) (fun _ hk => hk.2) (.string t329)) (fun _ hk => hk.2) (.slice Ao81 t330.length co81)) (fun _ hk => hk.2) (.slice Ao82 t333.length co82)) (fun _ h_ => h_.1))))) (Kd.R_lt (by (with_reducible repeat (first | apply Kd.R_alloc | apply Kd.R_drewN | apply Kd.R_drew)); exact (Kd.R_mono (Kd.R_far (p := ⟨gb338, 3, none⟩) (Kd.R_far (p := ⟨gb338, 2, none⟩) (Kd.R_far (p := ⟨gb338, 1, none⟩) (Kd.R_far (p := ⟨gb338, 0, none⟩) (Kd.R_mono HO335.out (fun k_ hk => (⟨hk, hk.2⟩ : _ ∧ k_ ≠ gb338))) (fun _ hk => hk.2) (.int .i64 t328)) (fun _ hk => hk.2) (.string t329)) (fun _ hk => hk.2) (.slice Ao81 t330.length co81)) (fun _ hk => hk.2) (.slice Ao82 t333.length co82)) (fun _ h_ => h_.1))))) (g := gb327) (o := .cells #[.int .i64 t317, .string t318, .slice Ao75 t319.length co75, .slice Ao76 t322.length co76] 38 (0, 0)) (by (with_reducible repeat (first | refine blk_drewN ?_ _ | refine blk_drew ?_ | refine blk_alloc ?_ _)); refine blk_far ?_ NB327_338.out _; (with_reducible repeat (first | refine blk_drewN ?_ _ | refine blk_drew ?_ | refine blk_alloc ?_ _)); refine blk_far ?_ NB327_338.out _; (with_reducible repeat (first | refine blk_drewN ?_ _ | refine blk_drew ?_ | refine blk_alloc ?_ _)); refine blk_far ?_ NB327_338.out _; (with_reducible repeat (first | refine blk_drewN ?_ _ | refine blk_drew ?_ | refine blk_alloc ?_ _)); refine blk_far ?_ NB327_338.out _; (with_reducible repeat (first | refine blk_drewN ?_ _ | refine blk_drew ?_ | refine blk_alloc ?_ _)); exact BK327.out)) (g := gb338) (o := .cells #[.int .i64 t328, .string t329, .slice Ao81 t330.length co81, .slice Ao82 t333.length co82] 38 (0, 0)) (by (with_reducible repeat (first | refine blk_drewN ?_ _ | refine blk_drew ?_ | refine blk_alloc ?_ _)); refine blk_put (cs := #[.int .i64 t328, .string t329, .slice Ao81 t330.length co81, .slice none 0 0]) ?_ 3 _ rfl; (with_reducible repeat (first | refine blk_drewN ?_ _ | refine blk_drew ?_ | refine blk_alloc ?_ _)); refine blk_put (cs := #[.int .i64 t328, .string t329, .slice none 0 0, .slice none 0 0]) ?_ 2 _ rfl; (with_reducible repeat (first | refine blk_drewN ?_ _ | refine blk_drew ?_ | refine blk_alloc ?_ _)); refine blk_put (cs := #[.int .i64 t328, .string (⟨#[]⟩ : ByteArray), .slice none 0 0, .slice none 0 0]) ?_ 1 _ rfl; (with_reducible repeat (first | refine blk_drewN ?_ _ | refine blk_drew ?_ | refine blk_alloc ?_ _)); refine blk_put (cs := #[.int .i64 0, .string (⟨#[]⟩ : ByteArray), .slice none 0 0, .slice none 0 0]) ?_ 0 _ rfl; (with_reducible repeat (first | refine blk_drewN ?_ _ | refine blk_drew ?_ | refine blk_alloc ?_ _)); exact BK338.out)) (below_size (by repeat (first | (with_reducible first | exact HB.out | apply below_alloc | apply pw_below_drewN | apply below_drew1 | refine below_set ?_ GE327.out | refine below_set ?_ GE338.out) | exact HB.out)))); have n6_ := Aside0.mk (blk_below (g := gb327) (o := .cells #[.int .i64 t317, .string t318, .slice Ao75 t319.length co75, .slice Ao76 t322.length co76] 38 (0, 0)) (by (with_reducible repeat (first | refine blk_drewN ?_ _ | refine blk_drew ?_ | refine blk_alloc ?_ _)); refine blk_far ?_ NB327_338.out _; (with_reducible repeat (first | refine blk_drewN ?_ _ | refine blk_drew ?_ | refine blk_alloc ?_ _)); refine blk_far ?_ NB327_338.out _; (with_reducible repeat (first | refine blk_drewN ?_ _ | refine blk_drew ?_ | refine blk_alloc ?_ _)); refine blk_far ?_ NB327_338.out _; (with_reducible repeat (first | refine blk_drewN ?_ _ | refine blk_drew ?_ | refine blk_alloc ?_ _)); refine blk_far ?_ NB327_338.out _; (with_reducible repeat (first | refine blk_drewN ?_ _ | refine blk_drew ?_ | refine blk_alloc ?_ _)); exact BK327.out) hb); have n7_ := Aside0.mk (blk_below (g := gb338) (o := .cells #[.int .i64 t328, .string t329, .slice Ao81 t330.length co81, .slice Ao82 t333.length co82] 38 (0, 0)) (by (with_reducible repeat (first | refine blk_drewN ?_ _ | refine blk_drew ?_ | refine blk_alloc ?_ _)); refine blk_put (cs := #[.int .i64 t328, .string t329, .slice Ao81 t330.length co81, .slice none 0 0]) ?_ 3 _ rfl; (with_reducible repeat (first | refine blk_drewN ?_ _ | refine blk_drew ?_ | refine blk_alloc ?_ _)); refine blk_put (cs := #[.int .i64 t328, .string t329, .slice none 0 0, .slice none 0 0]) ?_ 2 _ rfl; (with_reducible repeat (first | refine blk_drewN ?_ _ | refine blk_drew ?_ | refine blk_alloc ?_ _)); refine blk_put (cs := #[.int .i64 t328, .string (⟨#[]⟩ : ByteArray), .slice none 0 0, .slice none 0 0]) ?_ 1 _ rfl; (with_reducible repeat (first | refine blk_drewN ?_ _ | refine blk_drew ?_ | refine blk_alloc ?_ _)); refine blk_put (cs := #[.int .i64 0, .string (⟨#[]⟩ : ByteArray), .slice none 0 0, .slice none 0 0]) ?_ 0 _ rfl; (with_reducible repeat (first | refine blk_drewN ?_ _ | refine blk_drew ?_ | refine blk_alloc ?_ _)); exact BK338.out) hb); have n8_ := Aside0.mk (below_step (by repeat (first | (with_reducible first | exact HB.out | apply below_alloc | apply pw_below_drewN | apply below_drew1 | refine below_set ?_ GE327.out | refine below_set ?_ GE338.out) | exact HB.out)) hb); clear HO321; clear HO324; clear HO332; clear HO335; clear BK327; clear BK338; clear HB; have HO321 := n0_; have HO324 := n1_; have HO332 := n2_; have HO335 := n3_; have HO343 := n4_; have HO346 := n5_; have BK327 := n6_; have BK338 := n7_; have HB := n8_; clear n0_ n1_ n2_ n3_ n4_ n5_ n6_ n7_ n8_; (try clear hb); (try clear hb2); (try clear hk); (try clear hi); (try clear ho0); (try clear ho1)) | ((with_reducible refine gate_dst (N := 14) rfl ?_); refine box_event ?hg (N := 14) ?hd (cs := #[.int .i64 0, .string (⟨#[]⟩ : ByteArray), .slice none 0 0, .slice none 0 0]) (t := 38) ?hr ?_; (case hd => rfl); (case hg => rfl); (case hr => first | (go_simp; done) | (go_simp; rfl)); intro gb349 hg w84 hbox hb; have n0_ := Aside0.mk (Kd.R_below (by (with_reducible repeat (first | apply Kd.R_alloc | apply Kd.R_drewN | apply Kd.R_drew)); exact HO321.out) hb); have n1_ := Aside0.mk (Kd.R_below (Kd.R_elderB (by (with_reducible repeat (first | apply Kd.R_alloc | apply Kd.R_drewN | apply Kd.R_drew)); exact HO324.out) gb349 (Nat.le_of_eq hg.symm)) hb); have n2_ := Aside0.mk (Kd.R_below (by (with_reducible repeat (first | apply Kd.R_alloc | apply Kd.R_drewN | apply Kd.R_drew)); exact HO332.out) hb); have n3_ := Aside0.mk (Kd.R_below (Kd.R_elderB (by (with_reducible repeat (first | apply Kd.R_alloc | apply Kd.R_drewN | apply Kd.R_drew)); exact HO335.out) gb349 (Nat.le_of_eq hg.symm)) hb); have n4_ := Aside0.mk (Kd.R_below (by (with_reducible repeat (first | apply Kd.R_alloc | apply Kd.R_drewN | apply Kd.R_drew)); exact HO343.out) hb); have n5_ := Aside0.mk (Kd.R_below (Kd.R_elderB (by (with_reducible repeat (first | apply Kd.R_alloc | apply Kd.R_drewN | apply Kd.R_drew)); exact HO346.out) gb349 (Nat.le_of_eq hg.symm)) hb); have n6_ := Aside0.mk (blk_below (g := gb327) (o := .cells #[.int .i64 t317, .string t318, .slice Ao75 t319.length co75, .slice Ao76 t322.length co76] 38 (0, 0)) (by (with_reducible repeat (first | refine blk_drewN ?_ _ | refine blk_drew ?_ | refine blk_alloc ?_ _)); exact BK327.out) hb); have n7_ := Aside0.mk (blk_below (g := gb338) (o := .cells #[.int .i64 t328, .string t329, .slice Ao81 t330.length co81, .slice Ao82 t333.length co82] 38 (0, 0)) (by (with_reducible repeat (first | refine blk_drewN ?_ _ | refine blk_drew ?_ | refine blk_alloc ?_ _)); exact BK338.out) hb); have n8_ := Aside0.mk (below_step (by repeat (first | (with_reducible first | exact HB.out | apply below_alloc | apply pw_below_drewN | apply below_drew1 | refine below_set ?_ GE327.out | refine below_set ?_ GE338.out) | exact HB.out)) hb); have n9_ := Aside0.mk (hbox); have n10_ := Aside0.mk ((by rw [hg]; exact (below_size (by repeat (first | (with_reducible first | exact HB.out | apply below_alloc | apply pw_below_drewN | apply below_drew1 | refine below_set ?_ GE327.out | refine below_set ?_ GE338.out) | exact HB.out))) : w.heap.size ≤ gb349)); have n11_ := Aside0.mk ((by rw [hg]; exact (below_size (by repeat (first | (with_reducible first | exact HB.out | apply below_alloc | apply pw_below_drewN | apply below_drew1 | refine below_set ?_ GE327.out | refine below_set ?_ GE338.out) | exact HB.out))) : w.heap.size ≤ gb349)); have n12_ := Aside0.mk ((by rw [hg]; exact Nat.ne_of_lt (blk_lt (g := gb327) (o := .cells #[.int .i64 t317, .string t318, .slice Ao75 t319.length co75, .slice Ao76 t322.length co76] 38 (0, 0)) (by (with_reducible repeat (first | refine blk_drewN ?_ _ | refine blk_drew ?_ | refine blk_alloc ?_ _)); exact BK327.out)) : gb327 ≠ gb349)); have n13_ := Aside0.mk ((by rw [hg]; exact Nat.ne_of_gt (blk_lt (g := gb327) (o := .cells #[.int .i64 t317, .string t318, .slice Ao75 t319.length co75, .slice Ao76 t322.length co76] 38 (0, 0)) (by (with_reducible repeat (first | refine blk_drewN ?_ _ | refine blk_drew ?_ | refine blk_alloc ?_ _)); exact BK327.out)) : gb349 ≠ gb327)); have n14_ := Aside0.mk ((by rw [hg]; exact Nat.ne_of_lt (blk_lt (g := gb338) (o := .cells #[.int .i64 t328, .string t329, .slice Ao81 t330.length co81, .slice Ao82 t333.length co82] 38 (0, 0)) (by (with_reducible repeat (first | refine blk_drewN ?_ _ | refine blk_drew ?_ | refine blk_alloc ?_ _)); exact BK338.out)) : gb338 ≠ gb349)); have n15_ := Aside0.mk ((by rw [hg]; exact Nat.ne_of_gt (blk_lt (g := gb338) (o := .cells #[.int .i64 t328, .string t329, .slice Ao81 t330.length co81, .slice Ao82 t333.length co82] 38 (0, 0)) (by (with_reducible repeat (first | refine blk_drewN ?_ _ | refine blk_drew ?_ | refine blk_alloc ?_ _)); exact BK338.out)) : gb349 ≠ gb338)); clear HO321; clear HO324; clear HO332; clear HO335; clear HO343; clear HO346; clear BK327; clear BK338; clear HB; have HO321 := n0_; have HO324 := n1_; have HO332 := n2_; have HO335 := n3_; have HO343 := n4_; have HO346 := n5_; have BK327 := n6_; have BK338 := n7_; have HB := n8_; have BK349 := n9_; have GW349 := n10_; have GE349 := n11_; have NB327_349 := n12_; have NB349_327 := n13_; have NB338_349 := n14_; have NB349_338 := n15_; clear n0_ n1_ n2_ n3_ n4_ n5_ n6_ n7_ n8_ n9_ n10_ n11_ n12_ n13_ n14_ n15_; clear hb hbox hg; have hnb85 := NB349_327.out; have hnc85 := NB327_349.out; have hnb86 := NB349_338.out; have hnc86 := NB338_349.out; have hcz87_0 : w84.cell? ⟨gb349, 0, none⟩ = some (.int .i64 0) := (blk_cell BK349.out 0).trans rfl; have hcz87_1 : w84.cell? ⟨gb349, 1, none⟩ = some (.string (⟨#[]⟩ : ByteArray)) := (blk_cell BK349.out 1).trans rfl; have hcz87_2 : w84.cell? ⟨gb349, 2, none⟩ = some (.slice none 0 0) := (blk_cell BK349.out 2).trans rfl; have hcz87_3 : w84.cell? ⟨gb349, 3, none⟩ = some (.slice none 0 0) := (blk_cell BK349.out 3).trans rfl; have hfz87_0 := blk_frozen BK349.out 0; have hfz87_1 := blk_frozen BK349.out 1; have hfz87_2 := blk_frozen BK349.out 2; have hfz87_3 := blk_frozen BK349.out 3; obtain ⟨Ao88, co88, eo88⟩ := Kd.R_slice HO343.out; subst eo88; obtain ⟨Ao89, co89, eo89⟩ := Kd.R_slice HO346.out; subst eo89))
  go_ret
  exact ⟨by first | rfl | (simp [errW_none, errW_some] <;> rfl) | (simp [*, errW_none, errW_some] <;> rfl) | (simp [errW_none, errW_some] <;> exact ⟨rfl, rfl⟩) | (simp [*, errW_none, errW_some] <;> exact ⟨rfl, rfl⟩), by repeat (first | (with_reducible first | exact HB.out | apply below_alloc | apply pw_below_drewN | apply below_drew1 | refine below_set ?_ GE327.out | refine below_set ?_ GE338.out | refine below_set ?_ GE349.out) | exact HB.out)⟩
 replace c10 := Bool.eq_false_iff.mpr c10
 subst c10
 have H1 : (some false) = some r := by rw [if_neg (show ¬ (false = true) by decide)] at H; exact H
 clear H
 have H := H1
 clear H1
 obtain rfl := Option.some.inj H
 go_enter Tryd.func6, Tryd.ntmps6
 go_wp2_with (first | ((with_reducible refine gate_callee (f := 17) rfl ?_); refine goesL_ (some 29) rfl rfl Tryd.func17 (by kernel_rfl) rfl #[.string a0, .int .i64 (Int.tmod (wrap64 (a1)) 300)] rfl (by (try simp only [List.map_toArray, List.map_cons, List.map_nil]); first | done | rfl | (simp only [List.length_drop, List.length_take]; rfl)) ?_; (with_reducible refine (impl_FjValueAt.calls k a0 (Int.tmod (wrap64 (a1)) 300) t317 t318 t319 t322 t325 t326 _ ?side1 ?side2 A6.out).mono ?_); (case side1 => repeat (first | exact Kd.C_below HRG0.out (by repeat (first | (with_reducible first | exact HB.out | apply below_alloc | apply pw_below_drewN | apply below_drew1) | exact HB.out)) | exact HRG0.out | (with_reducible refine Kd.C_alloc ?_ _) | (with_reducible refine Kd.C_drewN ?_ _) | (with_reducible refine Kd.C_drew ?_))); (case side2 => repeat (first | exact Kd.C_below HRG1.out (by repeat (first | (with_reducible first | exact HB.out | apply below_alloc | apply pw_below_drewN | apply below_drew1) | exact HB.out)) | exact HRG1.out | (with_reducible refine Kd.C_alloc ?_ _) | (with_reducible refine Kd.C_drewN ?_ _) | (with_reducible refine Kd.C_drew ?_))); rintro e w90 ⟨v320, v323, rfl, ho0, ho1, hb⟩; refine ⟨_, rfl, ?_⟩; have n0_ := Aside0.mk (Kd.R_lower ho0 (below_size (by repeat (first | (with_reducible first | exact HB.out | apply below_alloc | apply pw_below_drewN | apply below_drew1) | exact HB.out)))); have n1_ := Aside0.mk (Kd.R_lower ho1 (below_size (by repeat (first | (with_reducible first | exact HB.out | apply below_alloc | apply pw_below_drewN | apply below_drew1) | exact HB.out)))); have n2_ := Aside0.mk (below_step (by repeat (first | (with_reducible first | exact HB.out | apply below_alloc | apply pw_below_drewN | apply below_drew1) | exact HB.out)) hb); clear HB; have HO321 := n0_; have HO324 := n1_; have HB := n2_; clear n0_ n1_ n2_; (try clear hb); (try clear hb2); (try clear hk); (try clear hi); (try clear ho0); (try clear ho1)) | ((with_reducible refine gate_dst (N := 8) rfl ?_); refine box_event ?hg (N := 8) ?hd (cs := #[.int .i64 0, .string (⟨#[]⟩ : ByteArray), .slice none 0 0, .slice none 0 0]) (t := 38) ?hr ?_; (case hd => rfl); (case hg => rfl); (case hr => first | (go_simp; done) | (go_simp; rfl)); intro gb327 hg w91 hbox hb; have n0_ := Aside0.mk (Kd.R_below (by (with_reducible repeat (first | apply Kd.R_alloc | apply Kd.R_drewN | apply Kd.R_drew)); exact HO321.out) hb); have n1_ := Aside0.mk (Kd.R_below (Kd.R_elderB (by (with_reducible repeat (first | apply Kd.R_alloc | apply Kd.R_drewN | apply Kd.R_drew)); exact HO324.out) gb327 (Nat.le_of_eq hg.symm)) hb); have n2_ := Aside0.mk (below_step (by repeat (first | (with_reducible first | exact HB.out | apply below_alloc | apply pw_below_drewN | apply below_drew1) | exact HB.out)) hb); have n3_ := Aside0.mk (hbox); have n4_ := Aside0.mk ((by rw [hg]; exact (below_size (by repeat (first | (with_reducible first | exact HB.out | apply below_alloc | apply pw_below_drewN | apply below_drew1) | exact HB.out))) : w.heap.size ≤ gb327)); have n5_ := Aside0.mk ((by rw [hg]; exact (below_size (by repeat (first | (with_reducible first | exact HB.out | apply below_alloc | apply pw_below_drewN | apply below_drew1) | exact HB.out))) : w.heap.size ≤ gb327)); clear HO321; clear HO324; clear HB; have HO321 := n0_; have HO324 := n1_; have HB := n2_; have BK327 := n3_; have GW327 := n4_; have GE327 := n5_; clear n0_ n1_ n2_ n3_ n4_ n5_; clear hb hbox hg; have hcz92_0 : w91.cell? ⟨gb327, 0, none⟩ = some (.int .i64 0) := (blk_cell BK327.out 0).trans rfl; have hcz92_1 : w91.cell? ⟨gb327, 1, none⟩ = some (.string (⟨#[]⟩ : ByteArray)) := (blk_cell BK327.out 1).trans rfl; have hcz92_2 : w91.cell? ⟨gb327, 2, none⟩ = some (.slice none 0 0) := (blk_cell BK327.out 2).trans rfl; have hcz92_3 : w91.cell? ⟨gb327, 3, none⟩ = some (.slice none 0 0) := (blk_cell BK327.out 3).trans rfl; have hfz92_0 := blk_frozen BK327.out 0; have hfz92_1 := blk_frozen BK327.out 1; have hfz92_2 := blk_frozen BK327.out 2; have hfz92_3 := blk_frozen BK327.out 3; obtain ⟨Ao93, co93, eo93⟩ := Kd.R_slice HO321.out; subst eo93; obtain ⟨Ao94, co94, eo94⟩ := Kd.R_slice HO324.out; subst eo94) | ((with_reducible refine gate_callee (f := 17) rfl ?_); refine goesL_ (some 40) rfl rfl Tryd.func17 (by kernel_rfl) rfl #[.string a0, .int .i64 (Int.tmod (wrap64 (a2)) (wrap64 ((Int.tmod (wrap64 (a1)) 300) + 1)))] rfl (by (try simp only [List.map_toArray, List.map_cons, List.map_nil]); first | done | rfl | (simp only [List.length_drop, List.length_take]; rfl)) ?_; (with_reducible refine (impl_FjValueAt.calls k a0 (Int.tmod (wrap64 (a2)) (wrap64 ((Int.tmod (wrap64 (a1)) 300) + 1))) t328 t329 t330 t333 t336 t337 _ ?side1 ?side2 A8.out).mono ?_); (case side1 => repeat (first | exact Kd.C_below HRG0.out (by repeat (first | (with_reducible first | exact HB.out | apply below_alloc | apply pw_below_drewN | apply below_drew1 | refine below_set ?_ GE327.out) | exact HB.out)) | exact HRG0.out | (with_reducible refine Kd.C_alloc ?_ _) | (with_reducible refine Kd.C_drewN ?_ _) | (with_reducible refine Kd.C_drew ?_))); (case side2 => repeat (first | exact Kd.C_below HRG1.out (by repeat (first | (with_reducible first | exact HB.out | apply below_alloc | apply pw_below_drewN | apply below_drew1 | refine below_set ?_ GE327.out) | exact HB.out)) | exact HRG1.out | (with_reducible refine Kd.C_alloc ?_ _) | (with_reducible refine Kd.C_drewN ?_ _) | (with_reducible refine Kd.C_drew ?_))); rintro e w95 ⟨v331, v334, rfl, ho0, ho1, hb⟩; refine ⟨_, rfl, ?_⟩; have n0_ := Aside0.mk (Kd.R_elder' (by (with_reducible repeat (first | apply Kd.R_alloc | apply Kd.R_drewN | apply Kd.R_drew)); exact (Kd.R_mono (Kd.R_far (p := ⟨gb327, 3, none⟩) (Kd.R_far (p := ⟨gb327, 2, none⟩) (Kd.R_far (p := ⟨gb327, 1, none⟩) (Kd.R_far (p := ⟨gb327, 0, none⟩) (Kd.R_types HO321.out BK327.out (by decide)) (fun _ hk => hk.2) (.int .i64 t317)) (fun _ hk => hk.2) (.string t318)) (fun _ hk => hk.2) (.slice Ao93 t319.length co93)) (fun _ hk => hk.2) (.slice Ao94 t322.length co94)) (fun _ h_ => h_.1))) (Kd.R_base ho0) hb); have n1_ := Aside0.mk (Kd.R_mono (Kd.R_told (Kd.R_told (Kd.R_old (by (with_reducible repeat (first | apply Kd.R_alloc | apply Kd.R_drewN | apply Kd.R_drew)); exact (Kd.R_mono (Kd.R_far (p := ⟨gb327, 3, none⟩) (Kd.R_far (p := ⟨gb327, 2, none⟩) (Kd.R_far (p := ⟨gb327, 1, none⟩) (Kd.R_far (p := ⟨gb327, 0, none⟩) (Kd.R_mono HO324.out (fun k_ hk => (⟨hk, hk.2⟩ : _ ∧ k_ ≠ gb327))) (fun _ hk => hk.2) (.int .i64 t317)) (fun _ hk => hk.2) (.string t318)) (fun _ hk => hk.2) (.slice Ao93 t319.length co93)) (fun _ hk => hk.2) (.slice Ao94 t322.length co94)) (fun _ h_ => h_.1))) hb) (Kd.R_base ho0)) (Kd.R_base ho1)) (fun _ h_ => h_.1)); have n2_ := Aside0.mk (Kd.R_lower (Kd.R_new' ho0 (Kd.R_lt (by (with_reducible repeat (first | apply Kd.R_alloc | apply Kd.R_drewN | apply Kd.R_drew)); exact (Kd.R_mono (Kd.R_far (p := ⟨gb327, 3, none⟩) (Kd.R_far (p := ⟨gb327, 2, none⟩) (Kd.R_far (p := ⟨gb327, 1, none⟩) (Kd.R_far (p := ⟨gb327, 0, none⟩) (Kd.R_types HO321.out BK327.out (by decide)) (fun _ hk => hk.2) (.int .i64 t317)) (fun _ hk => hk.2) (.string t318)) (fun _ hk => hk.2) (.slice Ao93 t319.length co93)) (fun _ hk => hk.2) (.slice Ao94 t322.length co94)) (fun _ h_ => h_.1))))) (below_size (by repeat (first | (with_reducible first | exact HB.out | apply below_alloc | apply pw_below_drewN | apply below_drew1 | refine below_set ?_ GE327.out) | exact HB.out)))); have n3_ := Aside0.mk (Kd.R_lower (Kd.R_newB (Kd.R_new' (Kd.R_new' ho1 (Kd.R_lt (by (with_reducible repeat (first | apply Kd.R_alloc | apply Kd.R_drewN | apply Kd.R_drew)); exact (Kd.R_mono (Kd.R_far (p := ⟨gb327, 3, none⟩) (Kd.R_far (p := ⟨gb327, 2, none⟩) (Kd.R_far (p := ⟨gb327, 1, none⟩) (Kd.R_far (p := ⟨gb327, 0, none⟩) (Kd.R_types HO321.out BK327.out (by decide)) (fun _ hk => hk.2) (.int .i64 t317)) (fun _ hk => hk.2) (.string t318)) (fun _ hk => hk.2) (.slice Ao93 t319.length co93)) (fun _ hk => hk.2) (.slice Ao94 t322.length co94)) (fun _ h_ => h_.1))))) (Kd.R_lt (by (with_reducible repeat (first | apply Kd.R_alloc | apply Kd.R_drewN | apply Kd.R_drew)); exact (Kd.R_mono (Kd.R_far (p := ⟨gb327, 3, none⟩) (Kd.R_far (p := ⟨gb327, 2, none⟩) (Kd.R_far (p := ⟨gb327, 1, none⟩) (Kd.R_far (p := ⟨gb327, 0, none⟩) (Kd.R_mono HO324.out (fun k_ hk => (⟨hk, hk.2⟩ : _ ∧ k_ ≠ gb327))) (fun _ hk => hk.2) (.int .i64 t317)) (fun _ hk => hk.2) (.string t318)) (fun _ hk => hk.2) (.slice Ao93 t319.length co93)) (fun _ hk => hk.2) (.slice Ao94 t322.length co94)) (fun _ h_ => h_.1))))) (g := gb327) (o := .cells #[.int .i64 t317, .string t318, .slice Ao93 t319.length co93, .slice Ao94 t322.length co94] 38 (0, 0)) (by (with_reducible repeat (first | refine blk_drewN ?_ _ | refine blk_drew ?_ | refine blk_alloc ?_ _)); refine blk_put (cs := #[.int .i64 t317, .string t318, .slice Ao93 t319.length co93, .slice none 0 0]) ?_ 3 _ rfl; (with_reducible repeat (first | refine blk_drewN ?_ _ | refine blk_drew ?_ | refine blk_alloc ?_ _)); refine blk_put (cs := #[.int .i64 t317, .string t318, .slice none 0 0, .slice none 0 0]) ?_ 2 _ rfl; (with_reducible repeat (first | refine blk_drewN ?_ _ | refine blk_drew ?_ | refine blk_alloc ?_ _)); refine blk_put (cs := #[.int .i64 t317, .string (⟨#[]⟩ : ByteArray), .slice none 0 0, .slice none 0 0]) ?_ 1 _ rfl; (with_reducible repeat (first | refine blk_drewN ?_ _ | refine blk_drew ?_ | refine blk_alloc ?_ _)); refine blk_put (cs := #[.int .i64 0, .string (⟨#[]⟩ : ByteArray), .slice none 0 0, .slice none 0 0]) ?_ 0 _ rfl; (with_reducible repeat (first | refine blk_drewN ?_ _ | refine blk_drew ?_ | refine blk_alloc ?_ _)); exact BK327.out)) (below_size (by repeat (first | (with_reducible first | exact HB.out | apply below_alloc | apply pw_below_drewN | apply below_drew1 | refine below_set ?_ GE327.out) | exact HB.out)))); have n4_ := Aside0.mk (blk_below (g := gb327) (o := .cells #[.int .i64 t317, .string t318, .slice Ao93 t319.length co93, .slice Ao94 t322.length co94] 38 (0, 0)) (by (with_reducible repeat (first | refine blk_drewN ?_ _ | refine blk_drew ?_ | refine blk_alloc ?_ _)); refine blk_put (cs := #[.int .i64 t317, .string t318, .slice Ao93 t319.length co93, .slice none 0 0]) ?_ 3 _ rfl; (with_reducible repeat (first | refine blk_drewN ?_ _ | refine blk_drew ?_ | refine blk_alloc ?_ _)); refine blk_put (cs := #[.int .i64 t317, .string t318, .slice none 0 0, .slice none 0 0]) ?_ 2 _ rfl; (with_reducible repeat (first | refine blk_drewN ?_ _ | refine blk_drew ?_ | refine blk_alloc ?_ _)); refine blk_put (cs := #[.int .i64 t317, .string (⟨#[]⟩ : ByteArray), .slice none 0 0, .slice none 0 0]) ?_ 1 _ rfl; (with_reducible repeat (first | refine blk_drewN ?_ _ | refine blk_drew ?_ | refine blk_alloc ?_ _)); refine blk_put (cs := #[.int .i64 0, .string (⟨#[]⟩ : ByteArray), .slice none 0 0, .slice none 0 0]) ?_ 0 _ rfl; (with_reducible repeat (first | refine blk_drewN ?_ _ | refine blk_drew ?_ | refine blk_alloc ?_ _)); exact BK327.out) hb); have n5_ := Aside0.mk (below_step (by repeat (first | (with_reducible first | exact HB.out | apply below_alloc | apply pw_below_drewN | apply below_drew1 | refine below_set ?_ GE327.out) | exact HB.out)) hb); clear HO321; clear HO324; clear BK327; clear HB; have HO321 := n0_; have HO324 := n1_; have HO332 := n2_; have HO335 := n3_; have BK327 := n4_; have HB := n5_; clear n0_ n1_ n2_ n3_ n4_ n5_; (try clear hb); (try clear hb2); (try clear hk); (try clear hi); (try clear ho0); (try clear ho1)) | ((with_reducible refine gate_dst (N := 11) rfl ?_); refine box_event ?hg (N := 11) ?hd (cs := #[.int .i64 0, .string (⟨#[]⟩ : ByteArray), .slice none 0 0, .slice none 0 0]) (t := 38) ?hr ?_; (case hd => rfl); (case hg => rfl); (case hr => first | (go_simp; done) | (go_simp; rfl)); intro gb338 hg w96 hbox hb; have n0_ := Aside0.mk (Kd.R_below (by (with_reducible repeat (first | apply Kd.R_alloc | apply Kd.R_drewN | apply Kd.R_drew)); exact HO321.out) hb); have n1_ := Aside0.mk (Kd.R_below (Kd.R_elderB (by (with_reducible repeat (first | apply Kd.R_alloc | apply Kd.R_drewN | apply Kd.R_drew)); exact HO324.out) gb338 (Nat.le_of_eq hg.symm)) hb); have n2_ := Aside0.mk (Kd.R_below (by (with_reducible repeat (first | apply Kd.R_alloc | apply Kd.R_drewN | apply Kd.R_drew)); exact HO332.out) hb); have n3_ := Aside0.mk (Kd.R_below (Kd.R_elderB (by (with_reducible repeat (first | apply Kd.R_alloc | apply Kd.R_drewN | apply Kd.R_drew)); exact HO335.out) gb338 (Nat.le_of_eq hg.symm)) hb); have n4_ := Aside0.mk (blk_below (g := gb327) (o := .cells #[.int .i64 t317, .string t318, .slice Ao93 t319.length co93, .slice Ao94 t322.length co94] 38 (0, 0)) (by (with_reducible repeat (first | refine blk_drewN ?_ _ | refine blk_drew ?_ | refine blk_alloc ?_ _)); exact BK327.out) hb); have n5_ := Aside0.mk (below_step (by repeat (first | (with_reducible first | exact HB.out | apply below_alloc | apply pw_below_drewN | apply below_drew1 | refine below_set ?_ GE327.out) | exact HB.out)) hb); have n6_ := Aside0.mk (hbox); have n7_ := Aside0.mk ((by rw [hg]; exact (below_size (by repeat (first | (with_reducible first | exact HB.out | apply below_alloc | apply pw_below_drewN | apply below_drew1 | refine below_set ?_ GE327.out) | exact HB.out))) : w.heap.size ≤ gb338)); have n8_ := Aside0.mk ((by rw [hg]; exact (below_size (by repeat (first | (with_reducible first | exact HB.out | apply below_alloc | apply pw_below_drewN | apply below_drew1 | refine below_set ?_ GE327.out) | exact HB.out))) : w.heap.size ≤ gb338)); have n9_ := Aside0.mk ((by rw [hg]; exact Nat.ne_of_lt (blk_lt (g := gb327) (o := .cells #[.int .i64 t317, .string t318, .slice Ao93 t319.length co93, .slice Ao94 t322.length co94] 38 (0, 0)) (by (with_reducible repeat (first | refine blk_drewN ?_ _ | refine blk_drew ?_ | refine blk_alloc ?_ _)); exact BK327.out)) : gb327 ≠ gb338)); have n10_ := Aside0.mk ((by rw [hg]; exact Nat.ne_of_gt (blk_lt (g := gb327) (o := .cells #[.int .i64 t317, .string t318, .slice Ao93 t319.length co93, .slice Ao94 t322.length co94] 38 (0, 0)) (by (with_reducible repeat (first | refine blk_drewN ?_ _ | refine blk_drew ?_ | refine blk_alloc ?_ _)); exact BK327.out)) : gb338 ≠ gb327)); clear HO321; clear HO324; clear HO332; clear HO335; clear BK327; clear HB; have HO321 := n0_; have HO324 := n1_; have HO332 := n2_; have HO335 := n3_; have BK327 := n4_; have HB := n5_; have BK338 := n6_; have GW338 := n7_; have GE338 := n8_; have NB327_338 := n9_; have NB338_327 := n10_; clear n0_ n1_ n2_ n3_ n4_ n5_ n6_ n7_ n8_ n9_ n10_; clear hb hbox hg; have hnb97 := NB338_327.out; have hnc97 := NB327_338.out; have hcz98_0 : w96.cell? ⟨gb338, 0, none⟩ = some (.int .i64 0) := (blk_cell BK338.out 0).trans rfl; have hcz98_1 : w96.cell? ⟨gb338, 1, none⟩ = some (.string (⟨#[]⟩ : ByteArray)) := (blk_cell BK338.out 1).trans rfl; have hcz98_2 : w96.cell? ⟨gb338, 2, none⟩ = some (.slice none 0 0) := (blk_cell BK338.out 2).trans rfl; have hcz98_3 : w96.cell? ⟨gb338, 3, none⟩ = some (.slice none 0 0) := (blk_cell BK338.out 3).trans rfl; have hfz98_0 := blk_frozen BK338.out 0; have hfz98_1 := blk_frozen BK338.out 1; have hfz98_2 := blk_frozen BK338.out 2; have hfz98_3 := blk_frozen BK338.out 3; obtain ⟨Ao99, co99, eo99⟩ := Kd.R_slice HO332.out; subst eo99; obtain ⟨Ao100, co100, eo100⟩ := Kd.R_slice HO335.out; subst eo100) | ((with_reducible refine gate_callee (f := 17) rfl ?_); refine goesL_ (some 45) rfl rfl Tryd.func17 (by kernel_rfl) rfl #[.string (⟨#[49]⟩ : ByteArray), .int .i64 299] rfl (by (try simp only [List.map_toArray, List.map_cons, List.map_nil]); first | done | rfl | (simp only [List.length_drop, List.length_take]; rfl)) ?_; (with_reducible refine (impl_FjValueAt.calls k (⟨#[49]⟩ : ByteArray) 299 t339 t340 t341 t344 t347 false _ ?side1 ?side2 A9.out).mono ?_); (case side1 => repeat (first | exact Kd.C_below HRG0.out (by repeat (first | (with_reducible first | exact HB.out | apply below_alloc | apply pw_below_drewN | apply below_drew1 | refine below_set ?_ GE327.out | refine below_set ?_ GE338.out) | exact HB.out)) | exact HRG0.out | (with_reducible refine Kd.C_alloc ?_ _) | (with_reducible refine Kd.C_drewN ?_ _) | (with_reducible refine Kd.C_drew ?_))); (case side2 => repeat (first | exact Kd.C_below HRG1.out (by repeat (first | (with_reducible first | exact HB.out | apply below_alloc | apply pw_below_drewN | apply below_drew1 | refine below_set ?_ GE327.out | refine below_set ?_ GE338.out) | exact HB.out)) | exact HRG1.out | (with_reducible refine Kd.C_alloc ?_ _) | (with_reducible refine Kd.C_drewN ?_ _) | (with_reducible refine Kd.C_drew ?_))); rintro e w101 ⟨v342, v345, rfl, ho0, ho1, hb⟩; refine ⟨_, rfl, ?_⟩; have n0_ := Aside0.mk (Kd.R_elder' (by (with_reducible repeat (first | apply Kd.R_alloc | apply Kd.R_drewN | apply Kd.R_drew)); exact (Kd.R_mono (Kd.R_far (p := ⟨gb338, 3, none⟩) (Kd.R_far (p := ⟨gb338, 2, none⟩) (Kd.R_far (p := ⟨gb338, 1, none⟩) (Kd.R_far (p := ⟨gb338, 0, none⟩) (Kd.R_types HO321.out BK338.out (by decide)) (fun _ hk => hk.2) (.int .i64 t328)) (fun _ hk => hk.2) (.string t329)) (fun _ hk => hk.2) (.slice Ao99 t330.length co99)) (fun _ hk => hk.2) (.slice Ao100 t333.length co100)) (fun _ h_ => h_.1))) (Kd.R_base ho0) hb); have n1_ := Aside0.mk (Kd.R_mono (Kd.R_told (Kd.R_told (Kd.R_old (by (with_reducible repeat (first | apply Kd.R_alloc | apply Kd.R_drewN | apply Kd.R_drew)); exact (Kd.R_mono (Kd.R_far (p := ⟨gb338, 3, none⟩) (Kd.R_far (p := ⟨gb338, 2, none⟩) (Kd.R_far (p := ⟨gb338, 1, none⟩) (Kd.R_far (p := ⟨gb338, 0, none⟩) (Kd.R_mono HO324.out (fun k_ hk => (⟨hk, hk.2⟩ : _ ∧ k_ ≠ gb338))) (fun _ hk => hk.2) (.int .i64 t328)) (fun _ hk => hk.2) (.string t329)) (fun _ hk => hk.2) (.slice Ao99 t330.length co99)) (fun _ hk => hk.2) (.slice Ao100 t333.length co100)) (fun _ h_ => h_.1))) hb) (Kd.R_base ho0)) (Kd.R_base ho1)) (fun _ h_ => h_.1)); have n2_ := Aside0.mk (Kd.R_elder' (by (with_reducible repeat (first | apply Kd.R_alloc | apply Kd.R_drewN | apply Kd.R_drew)); exact (Kd.R_mono (Kd.R_far (p := ⟨gb338, 3, none⟩) (Kd.R_far (p := ⟨gb338, 2, none⟩) (Kd.R_far (p := ⟨gb338, 1, none⟩) (Kd.R_far (p := ⟨gb338, 0, none⟩) (Kd.R_types HO332.out BK338.out (by decide)) (fun _ hk => hk.2) (.int .i64 t328)) (fun _ hk => hk.2) (.string t329)) (fun _ hk => hk.2) (.slice Ao99 t330.length co99)) (fun _ hk => hk.2) (.slice Ao100 t333.length co100)) (fun _ h_ => h_.1))) (Kd.R_base ho0) hb); have n3_ := Aside0.mk (Kd.R_mono (Kd.R_told (Kd.R_told (Kd.R_old (by (with_reducible repeat (first | apply Kd.R_alloc | apply Kd.R_drewN | apply Kd.R_drew)); exact (Kd.R_mono (Kd.R_far (p := ⟨gb338, 3, none⟩) (Kd.R_far (p := ⟨gb338, 2, none⟩) (Kd.R_far (p := ⟨gb338, 1, none⟩) (Kd.R_far (p := ⟨gb338, 0, none⟩) (Kd.R_mono HO335.out (fun k_ hk => (⟨hk, hk.2⟩ : _ ∧ k_ ≠ gb338))) (fun _ hk => hk.2) (.int .i64 t328)) (fun _ hk => hk.2) (.string t329)) (fun _ hk => hk.2) (.slice Ao99 t330.length co99)) (fun _ hk => hk.2) (.slice Ao100 t333.length co100)) (fun _ h_ => h_.1))) hb) (Kd.R_base ho0)) (Kd.R_base ho1)) (fun _ h_ => h_.1)); have n4_ := Aside0.mk (Kd.R_lower (Kd.R_new' (Kd.R_new' ho0 (Kd.R_lt (by (with_reducible repeat (first | apply Kd.R_alloc | apply Kd.R_drewN | apply Kd.R_drew)); exact (Kd.R_mono (Kd.R_far (p := ⟨gb338, 3, none⟩) (Kd.R_far (p := ⟨gb338, 2, none⟩) (Kd.R_far (p := ⟨gb338, 1, none⟩) (Kd.R_far (p := ⟨gb338, 0, none⟩) (Kd.R_types HO321.out BK338.out (by decide)) (fun _ hk => hk.2) (.int .i64 t328)) (fun _ hk => hk.2) (.string t329)) (fun _ hk => hk.2) (.slice Ao99 t330.length co99)) (fun _ hk => hk.2) (.slice Ao100 t333.length co100)) (fun _ h_ => h_.1))))) (Kd.R_lt (by (with_reducible repeat (first | apply Kd.R_alloc | apply Kd.R_drewN | apply Kd.R_drew)); exact (Kd.R_mono (Kd.R_far (p := ⟨gb338, 3, none⟩) (Kd.R_far (p := ⟨gb338, 2, none⟩) (Kd.R_far (p := ⟨gb338, 1, none⟩) (Kd.R_far (p := ⟨gb338, 0, none⟩) (Kd.R_types HO332.out BK338.out (by decide)) (fun _ hk => hk.2) (.int .i64 t328)) (fun _ hk => hk.2) (.string t329)) (fun _ hk => hk.2) (.slice Ao99 t330.length co99)) (fun _ hk => hk.2) (.slice Ao100 t333.length co100)) (fun _ h_ => h_.1))))) (below_size (by repeat (first | (with_reducible first | exact HB.out | apply below_alloc | apply pw_below_drewN | apply below_drew1 | refine below_set ?_ GE327.out | refine below_set ?_ GE338.out) | exact HB.out)))); have n5_ := Aside0.mk (Kd.R_lower (Kd.R_newB (Kd.R_newB (Kd.R_new' (Kd.R_new' (Kd.R_new' (Kd.R_new' ho1 (Kd.R_lt (by (with_reducible repeat (first | apply Kd.R_alloc | apply Kd.R_drewN | apply Kd.R_drew)); exact (Kd.R_mono (Kd.R_far (p := ⟨gb338, 3, none⟩) (Kd.R_far (p := ⟨gb338, 2, none⟩) (Kd.R_far (p := ⟨gb338, 1, none⟩) (Kd.R_far (p := ⟨gb338, 0, none⟩) (Kd.R_types HO321.out BK338.out (by decide)) (fun _ hk => hk.2) (.int .i64 t328)) (fun _ hk => hk.2) (.string t329)) (fun _ hk => hk.2) (.slice Ao99 t330.length co99)) (fun _ hk => hk.2) (.slice Ao100 t333.length co100)) (fun _ h_ => h_.1))))) (Kd.R_lt (by (with_reducible repeat (first | apply Kd.R_alloc | apply Kd.R_drewN | apply Kd.R_drew)); exact (Kd.R_mono (Kd.R_far (p := ⟨gb338, 3, none⟩) (Kd.R_far (p := ⟨gb338, 2, none⟩) (Kd.R_far (p := ⟨gb338, 1, none⟩) (Kd.R_far (p := ⟨gb338, 0, none⟩) (Kd.R_mono HO324.out (fun k_ hk => (⟨hk, hk.2⟩ : _ ∧ k_ ≠ gb338))) (fun _ hk => hk.2) (.int .i64 t328)) (fun _ hk => hk.2) (.string t329)) (fun _ hk => hk.2) (.slice Ao99 t330.length co99)) (fun _ hk => hk.2) (.slice Ao100 t333.length co100)) (fun _ h_ => h_.1))))) (Kd.R_lt (by (with_reducible repeat (first | apply Kd.R_alloc | apply Kd.R_drewN | apply Kd.R_drew)); exact (Kd.R_mono (Kd.R_far (p := ⟨gb338, 3, none⟩) (Kd.R_far (p := ⟨gb338, 2, none⟩) (Kd.R_far (p := ⟨gb338, 1, none⟩) (Kd.R_far (p := ⟨gb338, 0, none⟩) (Kd.R_types HO332.out BK338.out (by decide)) (fun _ hk => hk.2) (.int .i64 t328)) (fun _ hk => hk.2) (.string t329)) (fun _ hk => hk.2) (.slice Ao99 t330.length co99)) (fun _ hk => hk.2) (.slice Ao100 t333.length co100)) (fun _ h_ => h_.1))))) (Kd.R_lt (by (with_reducible repeat (first | apply Kd.R_alloc | apply Kd.R_drewN | apply Kd.R_drew)); exact (Kd.R_mono (Kd.R_far (p := ⟨gb338, 3, none⟩) (Kd.R_far (p := ⟨gb338, 2, none⟩) (Kd.R_far (p := ⟨gb338, 1, none⟩) (Kd.R_far (p := ⟨gb338, 0, none⟩) (Kd.R_mono HO335.out (fun k_ hk => (⟨hk, hk.2⟩ : _ ∧ k_ ≠ gb338))) (fun _ hk => hk.2) (.int .i64 t328)) (fun _ hk => hk.2) (.string t329)) (fun _ hk => hk.2) (.slice Ao99 t330.length co99)) (fun _ hk => hk.2) (.slice Ao100 t333.length co100)) (fun _ h_ => h_.1))))) (g := gb327) (o := .cells #[.int .i64 t317, .string t318, .slice Ao93 t319.length co93, .slice Ao94 t322.length co94] 38 (0, 0)) (by (with_reducible repeat (first | refine blk_drewN ?_ _ | refine blk_drew ?_ | refine blk_alloc ?_ _)); refine blk_far ?_ NB327_338.out _; (with_reducible repeat (first | refine blk_drewN ?_ _ | refine blk_drew ?_ | refine blk_alloc ?_ _)); refine blk_far ?_ NB327_338.out _; (with_reducible repeat (first | refine blk_drewN ?_ _ | refine blk_drew ?_ | refine blk_alloc ?_ _)); refine blk_far ?_ NB327_338.out _; (with_reducible repeat (first | refine blk_drewN ?_ _ | refine blk_drew ?_ | refine blk_alloc ?_ _)); refine blk_far ?_ NB327_338.out _; (with_reducible repeat (first | refine blk_drewN ?_ _ | refine blk_drew ?_ | refine blk_alloc ?_ _)); exact BK327.out)) (g := gb338) (o := .cells #[.int .i64 t328, .string t329, .slice Ao99 t330.length co99, .slice Ao100 t333.length co100] 38 (0, 0)) (by (with_reducible repeat (first | refine blk_drewN ?_ _ | refine blk_drew ?_ | refine blk_alloc ?_ _)); refine blk_put (cs := #[.int .i64 t328, .string t329, .slice Ao99 t330.length co99, .slice none 0 0]) ?_ 3 _ rfl; (with_reducible repeat (first | refine blk_drewN ?_ _ | refine blk_drew ?_ | refine blk_alloc ?_ _)); refine blk_put (cs := #[.int .i64 t328, .string t329, .slice none 0 0, .slice none 0 0]) ?_ 2 _ rfl; (with_reducible repeat (first | refine blk_drewN ?_ _ | refine blk_drew ?_ | refine blk_alloc ?_ _)); refine blk_put (cs := #[.int .i64 t328, .string (⟨#[]⟩ : ByteArray), .slice none 0 0, .slice none 0 0]) ?_ 1 _ rfl; (with_reducible repeat (first | refine blk_drewN ?_ _ | refine blk_drew ?_ | refine blk_alloc ?_ _)); refine blk_put (cs := #[.int .i64 0, .string (⟨#[]⟩ : ByteArray), .slice none 0 0, .slice none 0 0]) ?_ 0 _ rfl; (with_reducible repeat (first | refine blk_drewN ?_ _ | refine blk_drew ?_ | refine blk_alloc ?_ _)); exact BK338.out)) (below_size (by repeat (first | (with_reducible first | exact HB.out | apply below_alloc | apply pw_below_drewN | apply below_drew1 | refine below_set ?_ GE327.out | refine below_set ?_ GE338.out) | exact HB.out)))); have n6_ := Aside0.mk (blk_below (g := gb327) (o := .cells #[.int .i64 t317, .string t318, .slice Ao93 t319.length co93, .slice Ao94 t322.length co94] 38 (0, 0)) (by (with_reducible repeat (first | refine blk_drewN ?_ _ | refine blk_drew ?_ | refine blk_alloc ?_ _)); refine blk_far ?_ NB327_338.out _; (with_reducible repeat (first | refine blk_drewN ?_ _ | refine blk_drew ?_ | refine blk_alloc ?_ _)); refine blk_far ?_ NB327_338.out _; (with_reducible repeat (first | refine blk_drewN ?_ _ | refine blk_drew ?_ | refine blk_alloc ?_ _)); refine blk_far ?_ NB327_338.out _; (with_reducible repeat (first | refine blk_drewN ?_ _ | refine blk_drew ?_ | refine blk_alloc ?_ _)); refine blk_far ?_ NB327_338.out _; (with_reducible repeat (first | refine blk_drewN ?_ _ | refine blk_drew ?_ | refine blk_alloc ?_ _)); exact BK327.out) hb); have n7_ := Aside0.mk (blk_below (g := gb338) (o := .cells #[.int .i64 t328, .string t329, .slice Ao99 t330.length co99, .slice Ao100 t333.length co100] 38 (0, 0)) (by (with_reducible repeat (first | refine blk_drewN ?_ _ | refine blk_drew ?_ | refine blk_alloc ?_ _)); refine blk_put (cs := #[.int .i64 t328, .string t329, .slice Ao99 t330.length co99, .slice none 0 0]) ?_ 3 _ rfl; (with_reducible repeat (first | refine blk_drewN ?_ _ | refine blk_drew ?_ | refine blk_alloc ?_ _)); refine blk_put (cs := #[.int .i64 t328, .string t329, .slice none 0 0, .slice none 0 0]) ?_ 2 _ rfl; (with_reducible repeat (first | refine blk_drewN ?_ _ | refine blk_drew ?_ | refine blk_alloc ?_ _)); refine blk_put (cs := #[.int .i64 t328, .string (⟨#[]⟩ : ByteArray), .slice none 0 0, .slice none 0 0]) ?_ 1 _ rfl; (with_reducible repeat (first | refine blk_drewN ?_ _ | refine blk_drew ?_ | refine blk_alloc ?_ _)); refine blk_put (cs := #[.int .i64 0, .string (⟨#[]⟩ : ByteArray), .slice none 0 0, .slice none 0 0]) ?_ 0 _ rfl; (with_reducible repeat (first | refine blk_drewN ?_ _ | refine blk_drew ?_ | refine blk_alloc ?_ _)); exact BK338.out) hb); have n8_ := Aside0.mk (below_step (by repeat (first | (with_reducible first | exact HB.out | apply below_alloc | apply pw_below_drewN | apply below_drew1 | refine below_set ?_ GE327.out | refine below_set ?_ GE338.out) | exact HB.out)) hb); clear HO321; clear HO324; clear HO332; clear HO335; clear BK327; clear BK338; clear HB; have HO321 := n0_; have HO324 := n1_; have HO332 := n2_; have HO335 := n3_; have HO343 := n4_; have HO346 := n5_; have BK327 := n6_; have BK338 := n7_; have HB := n8_; clear n0_ n1_ n2_ n3_ n4_ n5_ n6_ n7_ n8_; (try clear hb); (try clear hb2); (try clear hk); (try clear hi); (try clear ho0); (try clear ho1)) | ((with_reducible refine gate_dst (N := 14) rfl ?_); refine box_event ?hg (N := 14) ?hd (cs := #[.int .i64 0, .string (⟨#[]⟩ : ByteArray), .slice none 0 0, .slice none 0 0]) (t := 38) ?hr ?_; (case hd => rfl); (case hg => rfl); (case hr => first | (go_simp; done) | (go_simp; rfl)); intro gb349 hg w102 hbox hb; have n0_ := Aside0.mk (Kd.R_below (by (with_reducible repeat (first | apply Kd.R_alloc | apply Kd.R_drewN | apply Kd.R_drew)); exact HO321.out) hb); have n1_ := Aside0.mk (Kd.R_below (Kd.R_elderB (by (with_reducible repeat (first | apply Kd.R_alloc | apply Kd.R_drewN | apply Kd.R_drew)); exact HO324.out) gb349 (Nat.le_of_eq hg.symm)) hb); have n2_ := Aside0.mk (Kd.R_below (by (with_reducible repeat (first | apply Kd.R_alloc | apply Kd.R_drewN | apply Kd.R_drew)); exact HO332.out) hb); have n3_ := Aside0.mk (Kd.R_below (Kd.R_elderB (by (with_reducible repeat (first | apply Kd.R_alloc | apply Kd.R_drewN | apply Kd.R_drew)); exact HO335.out) gb349 (Nat.le_of_eq hg.symm)) hb); have n4_ := Aside0.mk (Kd.R_below (by (with_reducible repeat (first | apply Kd.R_alloc | apply Kd.R_drewN | apply Kd.R_drew)); exact HO343.out) hb); have n5_ := Aside0.mk (Kd.R_below (Kd.R_elderB (by (with_reducible repeat (first | apply Kd.R_alloc | apply Kd.R_drewN | apply Kd.R_drew)); exact HO346.out) gb349 (Nat.le_of_eq hg.symm)) hb); have n6_ := Aside0.mk (blk_below (g := gb327) (o := .cells #[.int .i64 t317, .string t318, .slice Ao93 t319.length co93, .slice Ao94 t322.length co94] 38 (0, 0)) (by (with_reducible repeat (first | refine blk_drewN ?_ _ | refine blk_drew ?_ | refine blk_alloc ?_ _)); exact BK327.out) hb); have n7_ := Aside0.mk (blk_below (g := gb338) (o := .cells #[.int .i64 t328, .string t329, .slice Ao99 t330.length co99, .slice Ao100 t333.length co100] 38 (0, 0)) (by (with_reducible repeat (first | refine blk_drewN ?_ _ | refine blk_drew ?_ | refine blk_alloc ?_ _)); exact BK338.out) hb); have n8_ := Aside0.mk (below_step (by repeat (first | (with_reducible first | exact HB.out | apply below_alloc | apply pw_below_drewN | apply below_drew1 | refine below_set ?_ GE327.out | refine below_set ?_ GE338.out) | exact HB.out)) hb); have n9_ := Aside0.mk (hbox); have n10_ := Aside0.mk ((by rw [hg]; exact (below_size (by repeat (first | (with_reducible first | exact HB.out | apply below_alloc | apply pw_below_drewN | apply below_drew1 | refine below_set ?_ GE327.out | refine below_set ?_ GE338.out) | exact HB.out))) : w.heap.size ≤ gb349)); have n11_ := Aside0.mk ((by rw [hg]; exact (below_size (by repeat (first | (with_reducible first | exact HB.out | apply below_alloc | apply pw_below_drewN | apply below_drew1 | refine below_set ?_ GE327.out | refine below_set ?_ GE338.out) | exact HB.out))) : w.heap.size ≤ gb349)); have n12_ := Aside0.mk ((by rw [hg]; exact Nat.ne_of_lt (blk_lt (g := gb327) (o := .cells #[.int .i64 t317, .string t318, .slice Ao93 t319.length co93, .slice Ao94 t322.length co94] 38 (0, 0)) (by (with_reducible repeat (first | refine blk_drewN ?_ _ | refine blk_drew ?_ | refine blk_alloc ?_ _)); exact BK327.out)) : gb327 ≠ gb349)); have n13_ := Aside0.mk ((by rw [hg]; exact Nat.ne_of_gt (blk_lt (g := gb327) (o := .cells #[.int .i64 t317, .string t318, .slice Ao93 t319.length co93, .slice Ao94 t322.length co94] 38 (0, 0)) (by (with_reducible repeat (first | refine blk_drewN ?_ _ | refine blk_drew ?_ | refine blk_alloc ?_ _)); exact BK327.out)) : gb349 ≠ gb327)); have n14_ := Aside0.mk ((by rw [hg]; exact Nat.ne_of_lt (blk_lt (g := gb338) (o := .cells #[.int .i64 t328, .string t329, .slice Ao99 t330.length co99, .slice Ao100 t333.length co100] 38 (0, 0)) (by (with_reducible repeat (first | refine blk_drewN ?_ _ | refine blk_drew ?_ | refine blk_alloc ?_ _)); exact BK338.out)) : gb338 ≠ gb349)); have n15_ := Aside0.mk ((by rw [hg]; exact Nat.ne_of_gt (blk_lt (g := gb338) (o := .cells #[.int .i64 t328, .string t329, .slice Ao99 t330.length co99, .slice Ao100 t333.length co100] 38 (0, 0)) (by (with_reducible repeat (first | refine blk_drewN ?_ _ | refine blk_drew ?_ | refine blk_alloc ?_ _)); exact BK338.out)) : gb349 ≠ gb338)); clear HO321; clear HO324; clear HO332; clear HO335; clear HO343; clear HO346; clear BK327; clear BK338; clear HB; have HO321 := n0_; have HO324 := n1_; have HO332 := n2_; have HO335 := n3_; have HO343 := n4_; have HO346 := n5_; have BK327 := n6_; have BK338 := n7_; have HB := n8_; have BK349 := n9_; have GW349 := n10_; have GE349 := n11_; have NB327_349 := n12_; have NB349_327 := n13_; have NB338_349 := n14_; have NB349_338 := n15_; clear n0_ n1_ n2_ n3_ n4_ n5_ n6_ n7_ n8_ n9_ n10_ n11_ n12_ n13_ n14_ n15_; clear hb hbox hg; have hnb103 := NB349_327.out; have hnc103 := NB327_349.out; have hnb104 := NB349_338.out; have hnc104 := NB338_349.out; have hcz105_0 : w102.cell? ⟨gb349, 0, none⟩ = some (.int .i64 0) := (blk_cell BK349.out 0).trans rfl; have hcz105_1 : w102.cell? ⟨gb349, 1, none⟩ = some (.string (⟨#[]⟩ : ByteArray)) := (blk_cell BK349.out 1).trans rfl; have hcz105_2 : w102.cell? ⟨gb349, 2, none⟩ = some (.slice none 0 0) := (blk_cell BK349.out 2).trans rfl; have hcz105_3 : w102.cell? ⟨gb349, 3, none⟩ = some (.slice none 0 0) := (blk_cell BK349.out 3).trans rfl; have hfz105_0 := blk_frozen BK349.out 0; have hfz105_1 := blk_frozen BK349.out 1; have hfz105_2 := blk_frozen BK349.out 2; have hfz105_3 := blk_frozen BK349.out 3; obtain ⟨Ao106, co106, eo106⟩ := Kd.R_slice HO343.out; subst eo106; obtain ⟨Ao107, co107, eo107⟩ := Kd.R_slice HO346.out; subst eo107))
 go_ret
 exact ⟨by first | rfl | (simp [errW_none, errW_some] <;> rfl) | (simp [*, errW_none, errW_some] <;> rfl) | (simp [errW_none, errW_some] <;> exact ⟨rfl, rfl⟩) | (simp [*, errW_none, errW_some] <;> exact ⟨rfl, rfl⟩), by repeat (first | (with_reducible first | exact HB.out | apply below_alloc | apply pw_below_drewN | apply below_drew1 | refine below_set ?_ GE327.out | refine below_set ?_ GE338.out | refine below_set ?_ GE349.out) | exact HB.out)⟩
/-- THE ONE PURE STATEMENT of laws_FnFjValueDeeper: yours. -/
def laws_FnFjValueDeeper.Pure : Prop := ∀ (a0 : ByteArray) (a1 : Int) (a2 : Int), a0.size ≤ 140737488351232 → (Lit.int .u16 a1).wf = true → (Lit.int .u16 a2).wf = true → ∃ k, laws_FnFjValueDeeper.f k a0 a1 a2 = some true
end Go.Proofs.YtnajijaachgipaaDoor.PT
end
section
namespace Go.Proofs.YtnajijaachgipaaDoor.PT
open Go.RowKit Go.Proofs.YtnajijaachgipaaDoorW.PrintWords Go.Proofs.YtnajijaachgipaaDoorW.PrintLast Go.Proofs.YtnajijaachgipaaDoorW.PrintMore
attribute [local go_sem] max2_int min2_int max_two min_two max_three min_three max_four min_four   -- for this text's walks alone
set_option linter.unusedVariables false
set_option linter.unusedSimpArgs false
/-! ### spec_Blank: function 46 -/
def spec_Blank.f (a0 : Int) : Option (Bool) := if a0 = 32 then (some true) else (if a0 = 9 then (some true) else (if a0 = 10 then (some true) else (some (a0 == 13))))
set_option maxHeartbeats 8000000 in
set_option maxRecDepth 100000 in
theorem spec_Blank.calls (a0 : Int) (r : Bool) (w : World) (h : spec_Blank.f a0 = some r) :
  Calls Tryd.prog 46 #[.int .u8 a0] w fun e w' => e = .returned (.bool r) ∧ Drawn0 w w' := by
 have H : (if a0 = 32 then (some true) else (if a0 = 9 then (some true) else (if a0 = 10 then (some true) else (some (a0 == 13))))) = some r := h
 clear h
 by_cases c2 : a0 = 32
 ·rw [if_pos c2] at H
  have c2b0 : (a0 == 32) = true := beq_iff_eq.mpr c2
  have c2b1 : (a0 != 32) = false := bne_eq_false_iff_eq.mpr c2
  clear c2
  obtain rfl := Option.some.inj H
  go_enter Tryd.func46, Tryd.ntmps46
  go_wp2
  go_ret
  exact ⟨by first | rfl | (simp; done) | (simp [*]; done), by repeat (first | exact Drawn0.refl _ | apply Drawn0.step)⟩
 rw [if_neg c2] at H
 have c2b0 : (a0 == 32) = false := beq_eq_false_iff_ne.mpr c2
 have c2b1 : (a0 != 32) = true := bne_iff_ne.mpr c2
 by_cases c3 : a0 = 9
 ·rw [if_pos c3] at H
  have c3b0 : (a0 == 9) = true := beq_iff_eq.mpr c3
  have c3b1 : (a0 != 9) = false := bne_eq_false_iff_eq.mpr c3
  clear c3
  obtain rfl := Option.some.inj H
  go_enter Tryd.func46, Tryd.ntmps46
  go_wp2
  go_ret
  exact ⟨by first | rfl | (simp; done) | (simp [*]; done), by repeat (first | exact Drawn0.refl _ | apply Drawn0.step)⟩
 rw [if_neg c3] at H
 have c3b0 : (a0 == 9) = false := beq_eq_false_iff_ne.mpr c3
 have c3b1 : (a0 != 9) = true := bne_iff_ne.mpr c3
 by_cases c4 : a0 = 10
 ·rw [if_pos c4] at H
  have c4b0 : (a0 == 10) = true := beq_iff_eq.mpr c4
  have c4b1 : (a0 != 10) = false := bne_eq_false_iff_eq.mpr c4
  clear c4
  obtain rfl := Option.some.inj H
  go_enter Tryd.func46, Tryd.ntmps46
  go_wp2
  go_ret
  exact ⟨by first | rfl | (simp; done) | (simp [*]; done), by repeat (first | exact Drawn0.refl _ | apply Drawn0.step)⟩
 rw [if_neg c4] at H
 have c4b0 : (a0 == 10) = false := beq_eq_false_iff_ne.mpr c4
 have c4b1 : (a0 != 10) = true := bne_iff_ne.mpr c4
 obtain rfl := Option.some.inj H
 go_enter Tryd.func46, Tryd.ntmps46
 go_wp2
 go_ret
 exact ⟨by first | rfl | (simp; done) | (simp [*]; done), by repeat (first | exact Drawn0.refl _ | apply Drawn0.step)⟩
end Go.Proofs.YtnajijaachgipaaDoor.PT
end
section
namespace Go.Proofs.YtnajijaachgipaaDoor.PT
open Go.RowKit Go.Proofs.YtnajijaachgipaaDoorW.PrintWords Go.Proofs.YtnajijaachgipaaDoorW.PrintLast Go.Proofs.YtnajijaachgipaaDoorW.PrintMore
attribute [local go_sem] max2_int min2_int max_two min_two max_three min_three max_four min_four   -- for this text's walks alone
set_option linter.unusedVariables false
set_option linter.unusedSimpArgs false
/-! ### spec_skipped: function 26 -/
def spec_skipped.l0 : Nat → ByteArray → Option (ByteArray)
 | 0, _ => none
 | k + 1, x0 => if x0.toList = ([] : List UInt8) then (some x0) else (if 0 < (x0.size : Int) then ((spec_Blank.f (bt x0 0)).bind fun t101 => (if t101 = true then (if 1 ≤ (x0.size : Int) then (spec_skipped.l0 k (x0.extract 1 x0.size)) else (none)) else (some x0))) else (none))
def spec_skipped.f (k : Nat) (a0 : ByteArray) : Option (ByteArray) := spec_skipped.l0 k a0
theorem spec_skipped.mono_l : ∀ k, (∀ y0, LeO (spec_skipped.l0 k y0) (spec_skipped.l0 (k + 1) y0))
 | 0 => fun _ r h => by simp [spec_skipped.l0] at h
 | k + 1 => by
  have ih0 := spec_skipped.mono_l k
  ·intro y0
   unfold spec_skipped.l0
   repeat' first
   | (with_reducible exact ih0 _)
   | (with_reducible exact LeO.refl _)
   | (with_reducible exact LeO.none _)
   | (with_reducible refine LeO.ite ?_ ?_)
   | (with_reducible refine LeO.bind ?_ (fun _ => ?_))
   | exact ih0 _
   | exact LeO.none _
   | refine LeO.ite ?_ ?_
   | refine LeO.bind ?_ (fun _ => ?_)
theorem spec_skipped.mono : ∀ a0 k, LeO (spec_skipped.f k a0) (spec_skipped.f (k + 1) a0) := by
 intro a0 k
 have ih0 := spec_skipped.mono_l k
 unfold spec_skipped.f
 repeat' first
   | (with_reducible exact ih0 _)
   | (with_reducible exact LeO.refl _)
   | (with_reducible exact LeO.none _)
   | (with_reducible refine LeO.ite ?_ ?_)
   | (with_reducible refine LeO.bind ?_ (fun _ => ?_))
   | exact ih0 _
   | exact LeO.none _
   | refine LeO.ite ?_ ?_
   | refine LeO.bind ?_ (fun _ => ?_)
set_option maxHeartbeats 8000000 in
set_option maxRecDepth 100000 in
theorem spec_skipped.calls (k : Nat) (a0 : ByteArray) (r : ByteArray) (w : World) (h : spec_skipped.f k a0 = some r) :
  Calls Tryd.prog 26 #[.string a0] w fun e w' => e = .returned (.string r) ∧ Drawn0 w w' := by
 have H : (spec_skipped.l0 k a0) = some r := h
 clear h
 have H' := Aside0.mk H
 clear H
 go_enter Tryd.func26, Tryd.ntmps26
 go_wp2
 try simp only [Act.put, List.setIfInBounds_toArray, List.set_cons_succ, List.set_cons_zero]
 go_loopg [0] k (fun kq v0 w' => ∃ (x0_1 : ByteArray), v0 = .string x0_1 ∧ Aside0 (spec_skipped.l0 kq x0_1 = some r) ∧ Aside0 (kq ≤ k) ∧ Drawn0 w w')
 case atStart => exact ⟨(a0), (by first | rfl | (simp; done) | (simp [*]; done)), H', ⟨Nat.le_refl _⟩, by repeat (first | exact Drawn0.refl _ | apply Drawn0.step)⟩
 case round =>
  clear H'
  obtain ⟨x0_1, rfl, HA, HK1, ⟨m1, rfl⟩⟩ := hrel
  cases gk with
  | zero => exact absurd HA.out (by simp [spec_skipped.l0])
  | succ k1 =>
   have H := HA.out
   clear HA
   simp only [spec_skipped.l0] at H
   by_cases c2 : x0_1.toList = ([] : List UInt8)
   ·rw [if_pos c2] at H
    have c2b0 : (x0_1.toList == ([] : List UInt8)) = true := beq_iff_eq.mpr c2
    have c2b1 : (x0_1.toList != ([] : List UInt8)) = false := bne_eq_false_iff_eq.mpr c2
    clear c2
    obtain rfl := Option.some.inj H
    go_wp2
    go_ret
    exact ⟨by first | rfl | (simp; done) | (simp [*]; done), by repeat (first | exact Drawn0.refl _ | apply Drawn0.step)⟩
   rw [if_neg c2] at H
   have c2b0 : (x0_1.toList == ([] : List UInt8)) = false := beq_eq_false_iff_ne.mpr c2
   have c2b1 : (x0_1.toList != ([] : List UInt8)) = true := bne_iff_ne.mpr c2
   by_cases c3 : 0 < (x0_1.size : Int)
   ·rw [if_pos c3] at H
    have c3b0 : decide (0 < (x0_1.size : Int)) = true := decide_eq_true c3
    have c3b1 : decide (0 < x0_1.size) = true := decide_eq_true (by omega)
    clear c3
    replace H := Option.bind_eq_some_iff.mp H
    obtain ⟨t101, A50, H⟩ := H
    replace H : (if t101 = true then (if 1 ≤ (x0_1.size : Int) then (spec_skipped.l0 k1 (x0_1.extract 1 x0_1.size)) else (none)) else (some x0_1)) = some r := H
    have A5 := Aside0.mk A50
    clear A50
    by_cases c6 : t101 = true
    ·subst c6
     have H1 : (if 1 ≤ (x0_1.size : Int) then (spec_skipped.l0 k1 (x0_1.extract 1 x0_1.size)) else (none)) = some r := by rw [if_pos rfl] at H; exact H
     clear H
     have H := H1
     clear H1
     by_cases c7 : 1 ≤ (x0_1.size : Int)
     ·rw [if_pos c7] at H
      have c7b0 := eq_true c7
      have c7b1 : decide (1 ≤ (x0_1.size : Int)) = true := decide_eq_true c7
      clear c7
      obtain ⟨js8, hjs8⟩ : ∃ z_ : ByteArray, (x0_1.extract 1 x0_1.size) = z_ := ⟨_, rfl⟩
      replace H : (spec_skipped.l0 k1 js8) = some r := by first | (rw [hjs8] at H; exact H) | (simp only [hjs8] at H ⊢; exact H)
      have H' := Aside0.mk H
      clear H
      have p4 : 0 ≤ (0 : Int) := (by omega)
      have q4 : 0 < x0_1.size := (by have : (0 : Int) < (x0_1.size : Int) := of_decide_eq_true (by assumption); omega)
      have hx4 : ∀ h : 0 < x0_1.size, ((x0_1[0]'h).toNat : Int) = bt x0_1 0 := bt_at x0_1 0
      clear p4
      have qi4 : (0 < (x0_1.size : Int)) = True := eq_true (of_decide_eq_true (by assumption))
      replace q4 := eq_true q4
      go_wp2_with (first | (go_at_call 46; (with_reducible refine (spec_Blank.calls (bt x0_1 0) true _ A5.out).mono ?_); rintro e w' ⟨rfl, ⟨nd, rfl⟩⟩; try have hcs9 := fun W_ : World => run_slice_string_l (P := Tryd.prog) W_ 9 x0_1 Tryd.underlying9 .i64 1 (by omega) (of_decide_eq_true (by assumption)); (try simp only [hjs8] at hcs9)))
      go_roundg k1
      case measure => have := HK1.out; omega
      case rel => exact ⟨(js8), (by first | rfl | (simp; done) | (simp [*]; done)), H', ⟨by have := HK1.out; omega⟩, by repeat (first | exact Drawn0.refl _ | apply Drawn0.step)⟩
     rw [if_neg c7] at H
     exact absurd H (by simp)
    replace c6 := Bool.eq_false_iff.mpr c6
    subst c6
    have H1 : (some x0_1) = some r := by rw [if_neg (show ¬ (false = true) by decide)] at H; exact H
    clear H
    have H := H1
    clear H1
    obtain rfl := Option.some.inj H
    have p4 : 0 ≤ (0 : Int) := (by omega)
    have q4 : 0 < x0_1.size := (by have : (0 : Int) < (x0_1.size : Int) := of_decide_eq_true (by assumption); omega)
    have hx4 : ∀ h : 0 < x0_1.size, ((x0_1[0]'h).toNat : Int) = bt x0_1 0 := bt_at x0_1 0
    clear p4
    have qi4 : (0 < (x0_1.size : Int)) = True := eq_true (of_decide_eq_true (by assumption))
    replace q4 := eq_true q4
    go_wp2_with (first | (go_at_call 46; (with_reducible refine (spec_Blank.calls (bt x0_1 0) false _ A5.out).mono ?_); rintro e w' ⟨rfl, ⟨nd, rfl⟩⟩))
    go_ret
    exact ⟨by first | rfl | (simp; done) | (simp [*]; done), by repeat (first | exact Drawn0.refl _ | apply Drawn0.step)⟩
   rw [if_neg c3] at H
   exact absurd H (by simp)
end Go.Proofs.YtnajijaachgipaaDoor.PT
end
section
namespace Go.Proofs.YtnajijaachgipaaDoor.PT
open Go.RowKit Go.Proofs.YtnajijaachgipaaDoorW.PrintWords Go.Proofs.YtnajijaachgipaaDoorW.PrintLast Go.Proofs.YtnajijaachgipaaDoorW.PrintMore
attribute [local go_sem] max2_int min2_int max_two min_two max_three min_three max_four min_four   -- for this text's walks alone
set_option linter.unusedVariables false
set_option linter.unusedSimpArgs false
/-! ### spec_Closing: function 44 -/
mutual
def spec_Closing.l0 : Nat → ByteArray → Int → Int → Option (Int)
 | 0, _, _, _ => none
 | k + 1, x0, x3, x4 => if x4 < (x0.size : Int) then (if 0 ≤ x4 then (if (bt x0 x4) = 34 then (spec_Closing.j1 k x0 x3 x4 ((Int.tmod x3 2) == 0)) else (spec_Closing.j1 k x0 x3 x4 false)) else (none)) else (some (-1))
def spec_Closing.j1 : Nat → ByteArray → Int → Int → Bool → Option (Int)
 | 0, _, _, _, _ => none
 | k + 1, x0, x3, x4, x19 => if x19 = true then (some x4) else (if 0 ≤ x4 then (if x4 < (x0.size : Int) then (if (bt x0 x4) = 92 then (spec_Closing.l0 k x0 (wrap64 (x3 + 1)) (wrap64 (x4 + 1))) else (spec_Closing.l0 k x0 0 (wrap64 (x4 + 1)))) else (none)) else (none))
end
def spec_Closing.f (k : Nat) (a0 : ByteArray) : Option (Int) := spec_Closing.l0 k a0 0 0
theorem spec_Closing.mono_l : ∀ k, (∀ y0 y1 y2, LeO (spec_Closing.l0 k y0 y1 y2) (spec_Closing.l0 (k + 1) y0 y1 y2)) ∧ (∀ y0 y1 y2 y3, LeO (spec_Closing.j1 k y0 y1 y2 y3) (spec_Closing.j1 (k + 1) y0 y1 y2 y3))
 | 0 => ⟨fun _ _ _ r h => by simp [spec_Closing.l0] at h, fun _ _ _ _ r h => by simp [spec_Closing.j1] at h⟩
 | k + 1 => by
  obtain ⟨ih0, ih1⟩ := spec_Closing.mono_l k
  refine ⟨?_, ?_⟩
  ·intro y0 y1 y2
   unfold spec_Closing.l0
   repeat' first
   | (with_reducible exact ih0 _ _ _)
   | (with_reducible exact ih1 _ _ _ _)
   | (with_reducible exact LeO.refl _)
   | (with_reducible exact LeO.none _)
   | (with_reducible refine LeO.ite ?_ ?_)
   | (with_reducible refine LeO.bind ?_ (fun _ => ?_))
   | exact ih0 _ _ _
   | exact ih1 _ _ _ _
   | exact LeO.none _
   | refine LeO.ite ?_ ?_
   | refine LeO.bind ?_ (fun _ => ?_)
  intro y0 y1 y2 y3
  unfold spec_Closing.j1
  repeat' first
  | (with_reducible exact ih0 _ _ _)
  | (with_reducible exact ih1 _ _ _ _)
  | (with_reducible exact LeO.refl _)
  | (with_reducible exact LeO.none _)
  | (with_reducible refine LeO.ite ?_ ?_)
  | (with_reducible refine LeO.bind ?_ (fun _ => ?_))
  | exact ih0 _ _ _
  | exact ih1 _ _ _ _
  | exact LeO.none _
  | refine LeO.ite ?_ ?_
  | refine LeO.bind ?_ (fun _ => ?_)
theorem spec_Closing.mono : ∀ a0 k, LeO (spec_Closing.f k a0) (spec_Closing.f (k + 1) a0) := by
 intro a0 k
 obtain ⟨ih0, ih1⟩ := spec_Closing.mono_l k
 unfold spec_Closing.f
 repeat' first
   | (with_reducible exact ih0 _ _ _)
   | (with_reducible exact ih1 _ _ _ _)
   | (with_reducible exact LeO.refl _)
   | (with_reducible exact LeO.none _)
   | (with_reducible refine LeO.ite ?_ ?_)
   | (with_reducible refine LeO.bind ?_ (fun _ => ?_))
   | exact ih0 _ _ _
   | exact ih1 _ _ _ _
   | exact LeO.none _
   | refine LeO.ite ?_ ?_
   | refine LeO.bind ?_ (fun _ => ?_)
set_option maxHeartbeats 8000000 in
set_option maxRecDepth 100000 in
theorem spec_Closing.calls (k : Nat) (a0 : ByteArray) (r : Int) (w : World) (h : spec_Closing.f k a0 = some r) :
  Calls Tryd.prog 44 #[.string a0] w fun e w' => e = .returned (.int .i64 r) ∧ Drawn0 w w' := by
 have H : (spec_Closing.l0 k a0 0 0) = some r := h
 clear h
 have H' := Aside0.mk H
 clear H
 go_enter Tryd.func44, Tryd.ntmps44
 go_wp2
 try simp only [Act.put, List.setIfInBounds_toArray, List.set_cons_succ, List.set_cons_zero]
 go_loopg [3, 4] k (fun kq v3 v4 w' => ∃ (x3_1 : Int) (x4_1 : Int), v3 = .int .i64 x3_1 ∧ v4 = .int .i64 x4_1 ∧ Aside0 (spec_Closing.l0 kq a0 x3_1 x4_1 = some r) ∧ Aside0 (kq ≤ k) ∧ Drawn0 w w')
 case atStart => exact ⟨(0), (0), (by first | rfl | (simp; done) | (simp [*]; done)), (by first | rfl | (simp; done) | (simp [*]; done)), H', ⟨Nat.le_refl _⟩, by repeat (first | exact Drawn0.refl _ | apply Drawn0.step)⟩
 case round =>
  clear H'
  obtain ⟨x3_1, x4_1, rfl, rfl, HA, HK1, ⟨m1, rfl⟩⟩ := hrel
  cases gk with
  | zero => exact absurd HA.out (by simp [spec_Closing.l0])
  | succ k1 =>
   have H := HA.out
   clear HA
   simp only [spec_Closing.l0] at H
   by_cases c2 : x4_1 < (a0.size : Int)
   ·rw [if_pos c2] at H
    have c2b0 : decide (x4_1 < (a0.size : Int)) = true := decide_eq_true c2
    clear c2
    have HC3 := Aside0.mk H
    clear H
    go_upto_region 5 with (fail)
    go_cut [19] (fun v19 wc => ∃ (kq : Nat) (x19_2 : Bool), v19 = .bool x19_2 ∧ Aside0 (spec_Closing.j1 kq a0 x3_1 x4_1 x19_2 = some r) ∧ Aside0 (kq ≤ k1) ∧ Drawn0 w wc)
    case first =>
     have H := HC3.out
     clear HC3
     by_cases c4 : 0 ≤ x4_1
     ·rw [if_pos c4] at H
      have c4b0 : decide (0 ≤ x4_1) = true := decide_eq_true c4
      clear c4
      (first | rw [c4b0] | (simp only [i64_w, i32_w]; rw [c4b0]) | rw [c4b1] | skip)
      by_cases c6 : (bt a0 x4_1) = 34
      ·rw [if_pos c6] at H
       have c6b0 : ((bt a0 x4_1) == 34) = true := beq_iff_eq.mpr c6
       have c6b1 : ((bt a0 x4_1) != 34) = false := bne_eq_false_iff_eq.mpr c6
       clear c6
       have H' := Aside0.mk H
       clear H
       have p5 : 0 ≤ (x4_1 : Int) := of_decide_eq_true (by assumption)
       have q5 : x4_1 < (a0.size : Int) := of_decide_eq_true (by assumption)
       have hx5 := bt_at a0 x4_1
       replace p5 := eq_true p5
       replace q5 := eq_true q5
       go_wp2
       go_meet
       case rel => exact ⟨_, (((Int.tmod x3_1 2) == 0)), (by first | rfl | (simp; done) | (simp [*]; done)), H', ⟨by have := HK1.out; first | omega | exact Nat.le_refl _⟩, by repeat (first | exact Drawn0.refl _ | apply Drawn0.step)⟩
      rw [if_neg c6] at H
      have c6b0 : ((bt a0 x4_1) == 34) = false := beq_eq_false_iff_ne.mpr c6
      have c6b1 : ((bt a0 x4_1) != 34) = true := bne_iff_ne.mpr c6
      have H' := Aside0.mk H
      clear H
      have p5 : 0 ≤ (x4_1 : Int) := of_decide_eq_true (by assumption)
      have q5 : x4_1 < (a0.size : Int) := of_decide_eq_true (by assumption)
      have hx5 := bt_at a0 x4_1
      replace p5 := eq_true p5
      replace q5 := eq_true q5
      go_wp2
      go_meet
      case rel => exact ⟨_, (false), (by first | rfl | (simp; done) | (simp [*]; done)), H', ⟨by have := HK1.out; first | omega | exact Nat.le_refl _⟩, by repeat (first | exact Drawn0.refl _ | apply Drawn0.step)⟩
     rw [if_neg c4] at H
     exact absurd H (by simp)
    case rest =>
     clear HC3
     try clear c2
     try clear c2b0
     try clear p2
     try clear c4
     try clear c4b0
     try clear c4b1
     try clear p5
     try clear q5
     try clear hx5
     try clear c6
     try clear c6b0
     try clear c6b1
     try clear p5
     try clear q5
     obtain ⟨kq, x19_2, rfl, HA, HJ2, ⟨mc2, rfl⟩⟩ := hcut
     cases kq with
     | zero => exact absurd HA.out (by simp [spec_Closing.j1])
     | succ kj2 =>
      have H := HA.out
      clear HA
      simp only [spec_Closing.j1] at H
      by_cases c7 : x19_2 = true
      ·subst c7
       have H1 : (some x4_1) = some r := by rw [if_pos rfl] at H; exact H
       clear H
       have H := H1
       clear H1
       obtain rfl := Option.some.inj H
       go_wp2
       go_ret
       exact ⟨by first | rfl | (simp; done) | (simp [*]; done), by repeat (first | exact Drawn0.refl _ | apply Drawn0.step)⟩
      replace c7 := Bool.eq_false_iff.mpr c7
      subst c7
      have H1 : (if 0 ≤ x4_1 then (if x4_1 < (a0.size : Int) then (if (bt a0 x4_1) = 92 then (spec_Closing.l0 kj2 a0 (wrap64 (x3_1 + 1)) (wrap64 (x4_1 + 1))) else (spec_Closing.l0 kj2 a0 0 (wrap64 (x4_1 + 1)))) else (none)) else (none)) = some r := by rw [if_neg (show ¬ (false = true) by decide)] at H; exact H
      clear H
      have H := H1
      clear H1
      by_cases c8 : 0 ≤ x4_1
      ·rw [if_pos c8] at H
       have c8b0 : decide (0 ≤ x4_1) = true := decide_eq_true c8
       clear c8
       by_cases c9 : x4_1 < (a0.size : Int)
       ·rw [if_pos c9] at H
        have c9b0 : decide (x4_1 < (a0.size : Int)) = true := decide_eq_true c9
        clear c9
        by_cases c11 : (bt a0 x4_1) = 92
        ·rw [if_pos c11] at H
         have c11b0 : ((bt a0 x4_1) == 92) = true := beq_iff_eq.mpr c11
         have c11b1 : ((bt a0 x4_1) != 92) = false := bne_eq_false_iff_eq.mpr c11
         clear c11
         have H' := Aside0.mk H
         clear H
         have p10 : 0 ≤ (x4_1 : Int) := of_decide_eq_true (by assumption)
         have q10 : x4_1 < (a0.size : Int) := of_decide_eq_true (by assumption)
         have hx10 := bt_at a0 x4_1
         replace p10 := eq_true p10
         replace q10 := eq_true q10
         go_wp2
         go_roundg kj2
         case measure => have := HK1.out; have := HJ2.out; omega
         case rel => exact ⟨(wrap64 (x3_1 + 1)), (wrap64 (x4_1 + 1)), (by first | rfl | (simp; done) | (simp [*]; done)), (by first | rfl | (simp; done) | (simp [*]; done)), H', ⟨by have := HK1.out; have := HJ2.out; omega⟩, by repeat (first | exact Drawn0.refl _ | apply Drawn0.step)⟩
        rw [if_neg c11] at H
        have c11b0 : ((bt a0 x4_1) == 92) = false := beq_eq_false_iff_ne.mpr c11
        have c11b1 : ((bt a0 x4_1) != 92) = true := bne_iff_ne.mpr c11
        have H' := Aside0.mk H
        clear H
        have p10 : 0 ≤ (x4_1 : Int) := of_decide_eq_true (by assumption)
        have q10 : x4_1 < (a0.size : Int) := of_decide_eq_true (by assumption)
        have hx10 := bt_at a0 x4_1
        replace p10 := eq_true p10
        replace q10 := eq_true q10
        go_wp2
        go_roundg kj2
        case measure => have := HK1.out; have := HJ2.out; omega
        case rel => exact ⟨(0), (wrap64 (x4_1 + 1)), (by first | rfl | (simp; done) | (simp [*]; done)), (by first | rfl | (simp; done) | (simp [*]; done)), H', ⟨by have := HK1.out; have := HJ2.out; omega⟩, by repeat (first | exact Drawn0.refl _ | apply Drawn0.step)⟩
       rw [if_neg c9] at H
       exact absurd H (by simp)
      rw [if_neg c8] at H
      exact absurd H (by simp)
   rw [if_neg c2] at H
   have c2b0 : decide (x4_1 < (a0.size : Int)) = false := decide_eq_false c2
   clear c2
   obtain rfl := Option.some.inj H
   go_wp2
   go_ret
   exact ⟨by first | rfl | (simp; done) | (simp [*]; done), by repeat (first | exact Drawn0.refl _ | apply Drawn0.step)⟩
end Go.Proofs.YtnajijaachgipaaDoor.PT
end
section
namespace Go.Proofs.YtnajijaachgipaaDoor.PT
open Go.RowKit Go.Proofs.YtnajijaachgipaaDoorW.PrintWords Go.Proofs.YtnajijaachgipaaDoorW.PrintLast Go.Proofs.YtnajijaachgipaaDoorW.PrintMore
attribute [local go_sem] max2_int min2_int max_two min_two max_three min_three max_four min_four   -- for this text's walks alone
set_option linter.unusedVariables false
set_option linter.unusedSimpArgs false
/-! ### spec_fjName: function 66 -/
def spec_fjName.j0 : Nat → ByteArray → Bool → Option (ByteArray × ByteArray × Bool)
 | 0, _, _ => none
 | k + 1, x0, x13 => if x13 = true then (some ((⟨#[]⟩ : ByteArray), (⟨#[]⟩ : ByteArray), false)) else (if 1 ≤ (x0.size : Int) then ((spec_Closing.f k (x0.extract 1 x0.size)).bind fun t102 => (if t102 < 0 then (some ((⟨#[]⟩ : ByteArray), (⟨#[]⟩ : ByteArray), false)) else (if 0 ≤ (wrap64 (t102 + 2)) then (if (wrap64 (t102 + 2)) ≤ (x0.size : Int) then ((spec_skipped.f k (x0.extract ((wrap64 (t102 + 2)) : Int).toNat x0.size)).bind fun t103 => (if t103.toList = ([] : List UInt8) then (some ((⟨#[]⟩ : ByteArray), (⟨#[]⟩ : ByteArray), false)) else (if 0 < (t103.size : Int) then (if (bt t103 0) = 58 then (if 1 ≤ (wrap64 (t102 + 1)) then (if (wrap64 (t102 + 1)) ≤ (x0.size : Int) then (if 1 ≤ (t103.size : Int) then ((spec_skipped.f k (t103.extract 1 t103.size)).bind fun t104 => (some (x0.extract 1 ((wrap64 (t102 + 1)) : Int).toNat, t104, true))) else (none)) else (none)) else (none)) else (some ((⟨#[]⟩ : ByteArray), (⟨#[]⟩ : ByteArray), false))) else (none)))) else (none)) else (none)))) else (none))
def spec_fjName.f (k : Nat) (a0 : ByteArray) : Option (ByteArray × ByteArray × Bool) := if a0.toList = ([] : List UInt8) then (spec_fjName.j0 k a0 true) else (if 0 < (a0.size : Int) then (spec_fjName.j0 k a0 ((bt a0 0) != 34)) else (none))
theorem spec_fjName.mono_l : ∀ k, (∀ y0 y1, LeO (spec_fjName.j0 k y0 y1) (spec_fjName.j0 (k + 1) y0 y1))
 | 0 => fun _ _ r h => by simp [spec_fjName.j0] at h
 | k + 1 => by
  have ih0 := spec_fjName.mono_l k
  ·intro y0 y1
   unfold spec_fjName.j0
   repeat' first
   | (with_reducible exact ih0 _ _)
   | (with_reducible exact spec_Closing.mono _ _)
   | (with_reducible exact spec_skipped.mono _ _)
   | (with_reducible exact LeO.refl _)
   | (with_reducible exact LeO.none _)
   | (with_reducible refine LeO.ite ?_ ?_)
   | (with_reducible refine LeO.bind ?_ (fun _ => ?_))
   | exact ih0 _ _
   | exact spec_Closing.mono _ _
   | exact spec_skipped.mono _ _
   | exact LeO.none _
   | refine LeO.ite ?_ ?_
   | refine LeO.bind ?_ (fun _ => ?_)
theorem spec_fjName.mono : ∀ a0 k, LeO (spec_fjName.f k a0) (spec_fjName.f (k + 1) a0) := by
 intro a0 k
 have ih0 := spec_fjName.mono_l k
 unfold spec_fjName.f
 repeat' first
   | (with_reducible exact ih0 _ _)
   | (with_reducible exact spec_Closing.mono _ _)
   | (with_reducible exact spec_skipped.mono _ _)
   | (with_reducible exact LeO.refl _)
   | (with_reducible exact LeO.none _)
   | (with_reducible refine LeO.ite ?_ ?_)
   | (with_reducible refine LeO.bind ?_ (fun _ => ?_))
   | exact ih0 _ _
   | exact spec_Closing.mono _ _
   | exact spec_skipped.mono _ _
   | exact LeO.none _
   | refine LeO.ite ?_ ?_
   | refine LeO.bind ?_ (fun _ => ?_)
set_option maxHeartbeats 8000000 in
set_option maxRecDepth 100000 in
theorem spec_fjName.calls (k : Nat) (a0 : ByteArray) (r1 : ByteArray) (r2 : ByteArray) (r3 : Bool) (w : World) (h : spec_fjName.f k a0 = some (r1, r2, r3)) :
  Calls Tryd.prog 66 #[.string a0] w fun e w' => e = .returned (.tuple #[.string r1, .string r2, .bool r3]) ∧ Drawn0 w w' := by
 have H : (if a0.toList = ([] : List UInt8) then (spec_fjName.j0 k a0 true) else (if 0 < (a0.size : Int) then (spec_fjName.j0 k a0 ((bt a0 0) != 34)) else (none))) = some (r1, r2, r3) := h
 clear h
 have HC2 := Aside0.mk H
 clear H
 go_enter Tryd.func66, Tryd.ntmps66
 go_upto_region 1 with (fail)
 repeat (go_quiet (fail); go_upto_region 1 with (fail))
 go_cut [13] (fun v13 wc => ∃ (kq : Nat) (x13_1 : Bool), v13 = .bool x13_1 ∧ Aside0 (spec_fjName.j0 kq a0 x13_1 = some (r1, r2, r3)) ∧ Aside0 (kq ≤ k) ∧ Drawn0 w wc)
 case first =>
  have H := HC2.out
  clear HC2
  by_cases c3 : a0.toList = ([] : List UInt8)
  ·rw [if_pos c3] at H
   have c3b0 : (a0.toList == ([] : List UInt8)) = true := beq_iff_eq.mpr c3
   have c3b1 : (a0.toList != ([] : List UInt8)) = false := bne_eq_false_iff_eq.mpr c3
   clear c3
   (first | rw [c3b0] | (simp only [i64_w, i32_w]; rw [c3b0]) | rw [c3b1] | skip)
   have H' := Aside0.mk H
   clear H
   go_wp2
   repeat (go_quiet (fail); try go_wp2)
   go_meet
   case rel => exact ⟨_, (true), (by first | rfl | (simp; done) | (simp [*]; done)), H', ⟨by first | omega | exact Nat.le_refl _⟩, by repeat (first | exact Drawn0.refl _ | apply Drawn0.step)⟩
  rw [if_neg c3] at H
  have c3b0 : (a0.toList == ([] : List UInt8)) = false := beq_eq_false_iff_ne.mpr c3
  have c3b1 : (a0.toList != ([] : List UInt8)) = true := bne_iff_ne.mpr c3
  (first | rw [c3b0] | (simp only [i64_w, i32_w]; rw [c3b0]) | rw [c3b1] | skip)
  by_cases c4 : 0 < (a0.size : Int)
  ·rw [if_pos c4] at H
   have c4b0 : decide (0 < (a0.size : Int)) = true := decide_eq_true c4
   have c4b1 : decide (0 < a0.size) = true := decide_eq_true (by omega)
   clear c4
   have H' := Aside0.mk H
   clear H
   have p5 : 0 ≤ (0 : Int) := (by omega)
   have q5 : 0 < a0.size := (by have : (0 : Int) < (a0.size : Int) := of_decide_eq_true (by assumption); omega)
   have hx5 : ∀ h : 0 < a0.size, ((a0[0]'h).toNat : Int) = bt a0 0 := bt_at a0 0
   clear p5
   have qi5 : (0 < (a0.size : Int)) = True := eq_true (of_decide_eq_true (by assumption))
   replace q5 := eq_true q5
   go_wp2
   repeat (go_quiet (fail); try go_wp2)
   go_meet
   case rel => exact ⟨_, (((bt a0 0) != 34)), (by first | rfl | (simp; done) | (simp [*]; done)), H', ⟨by first | omega | exact Nat.le_refl _⟩, by repeat (first | exact Drawn0.refl _ | apply Drawn0.step)⟩
  rw [if_neg c4] at H
  exact absurd H (by simp)
 case rest =>
  clear HC2
  try clear p2
  try clear c3
  try clear c3b0
  try clear c3b1
  try clear c4
  try clear c4b0
  try clear c4b1
  try clear p5
  try clear q5
  try clear hx5
  try clear qi5
  try clear p5
  try clear q5
  obtain ⟨kq, x13_1, rfl, HA, HJ1, ⟨mc1, rfl⟩⟩ := hcut
  cases kq with
  | zero => exact absurd HA.out (by simp [spec_fjName.j0])
  | succ kj1 =>
   have H := HA.out
   clear HA
   simp only [spec_fjName.j0] at H
   by_cases c6 : x13_1 = true
   ·subst c6
    have H1 : (some ((⟨#[]⟩ : ByteArray), (⟨#[]⟩ : ByteArray), false)) = some (r1, r2, r3) := by rw [if_pos rfl] at H; exact H
    clear H
    have H := H1
    clear H1
    simp only [Option.some.injEq, Prod.mk.injEq] at H
    obtain ⟨rfl, rfl, rfl⟩ := H
    go_wp2
    repeat (go_quiet (fail); try go_wp2)
    go_ret3
    exact ⟨by first | rfl | (simp; done) | (simp [*]; done), by repeat (first | exact Drawn0.refl _ | apply Drawn0.step)⟩
   replace c6 := Bool.eq_false_iff.mpr c6
   subst c6
   have H1 : (if 1 ≤ (a0.size : Int) then ((spec_Closing.f kj1 (a0.extract 1 a0.size)).bind fun t102 => (if t102 < 0 then (some ((⟨#[]⟩ : ByteArray), (⟨#[]⟩ : ByteArray), false)) else (if 0 ≤ (wrap64 (t102 + 2)) then (if (wrap64 (t102 + 2)) ≤ (a0.size : Int) then ((spec_skipped.f kj1 (a0.extract ((wrap64 (t102 + 2)) : Int).toNat a0.size)).bind fun t103 => (if t103.toList = ([] : List UInt8) then (some ((⟨#[]⟩ : ByteArray), (⟨#[]⟩ : ByteArray), false)) else (if 0 < (t103.size : Int) then (if (bt t103 0) = 58 then (if 1 ≤ (wrap64 (t102 + 1)) then (if (wrap64 (t102 + 1)) ≤ (a0.size : Int) then (if 1 ≤ (t103.size : Int) then ((spec_skipped.f kj1 (t103.extract 1 t103.size)).bind fun t104 => (some (a0.extract 1 ((wrap64 (t102 + 1)) : Int).toNat, t104, true))) else (none)) else (none)) else (none)) else (some ((⟨#[]⟩ : ByteArray), (⟨#[]⟩ : ByteArray), false))) else (none)))) else (none)) else (none)))) else (none)) = some (r1, r2, r3) := by rw [if_neg (show ¬ (false = true) by decide)] at H; exact H
   clear H
   have H := H1
   clear H1
   by_cases c7 : 1 ≤ (a0.size : Int)
   ·rw [if_pos c7] at H
    have c7b0 := eq_true c7
    have c7b1 : decide (1 ≤ (a0.size : Int)) = true := decide_eq_true c7
    clear c7
    obtain ⟨js8, hjs8⟩ : ∃ z_ : ByteArray, (a0.extract 1 a0.size) = z_ := ⟨_, rfl⟩
    replace H : ((spec_Closing.f kj1 js8).bind fun t102 => (if t102 < 0 then (some ((⟨#[]⟩ : ByteArray), (⟨#[]⟩ : ByteArray), false)) else (if 0 ≤ (wrap64 (t102 + 2)) then (if (wrap64 (t102 + 2)) ≤ (a0.size : Int) then ((spec_skipped.f kj1 (a0.extract ((wrap64 (t102 + 2)) : Int).toNat a0.size)).bind fun t103 => (if t103.toList = ([] : List UInt8) then (some ((⟨#[]⟩ : ByteArray), (⟨#[]⟩ : ByteArray), false)) else (if 0 < (t103.size : Int) then (if (bt t103 0) = 58 then (if 1 ≤ (wrap64 (t102 + 1)) then (if (wrap64 (t102 + 1)) ≤ (a0.size : Int) then (if 1 ≤ (t103.size : Int) then ((spec_skipped.f kj1 (t103.extract 1 t103.size)).bind fun t104 => (some (a0.extract 1 ((wrap64 (t102 + 1)) : Int).toNat, t104, true))) else (none)) else (none)) else (none)) else (some ((⟨#[]⟩ : ByteArray), (⟨#[]⟩ : ByteArray), false))) else (none)))) else (none)) else (none)))) = some (r1, r2, r3) := by first | (rw [hjs8] at H; exact H) | (simp only [hjs8] at H ⊢; exact H)
    replace H := Option.bind_eq_some_iff.mp H
    obtain ⟨t102, A90, H⟩ := H
    replace H : (if t102 < 0 then (some ((⟨#[]⟩ : ByteArray), (⟨#[]⟩ : ByteArray), false)) else (if 0 ≤ (wrap64 (t102 + 2)) then (if (wrap64 (t102 + 2)) ≤ (a0.size : Int) then ((spec_skipped.f kj1 (a0.extract ((wrap64 (t102 + 2)) : Int).toNat a0.size)).bind fun t103 => (if t103.toList = ([] : List UInt8) then (some ((⟨#[]⟩ : ByteArray), (⟨#[]⟩ : ByteArray), false)) else (if 0 < (t103.size : Int) then (if (bt t103 0) = 58 then (if 1 ≤ (wrap64 (t102 + 1)) then (if (wrap64 (t102 + 1)) ≤ (a0.size : Int) then (if 1 ≤ (t103.size : Int) then ((spec_skipped.f kj1 (t103.extract 1 t103.size)).bind fun t104 => (some (a0.extract 1 ((wrap64 (t102 + 1)) : Int).toNat, t104, true))) else (none)) else (none)) else (none)) else (some ((⟨#[]⟩ : ByteArray), (⟨#[]⟩ : ByteArray), false))) else (none)))) else (none)) else (none))) = some (r1, r2, r3) := H
    have A9 := Aside0.mk A90
    clear A90
    by_cases c10 : t102 < 0
    ·rw [if_pos c10] at H
     have c10b0 : decide (t102 < 0) = true := decide_eq_true c10
     clear c10
     simp only [Option.some.injEq, Prod.mk.injEq] at H
     obtain ⟨rfl, rfl, rfl⟩ := H
     try have hcs11 := fun W_ : World => run_slice_string_l (P := Tryd.prog) W_ 9 a0 Tryd.underlying9 .i64 1 (by omega) (of_decide_eq_true (by assumption))
     (try simp only [hjs8] at hcs11)
     go_wp2_with (first | (go_at_call 44; (with_reducible refine (spec_Closing.calls kj1 js8 t102 _ A9.out).mono ?_); rintro e w' ⟨rfl, ⟨nd, rfl⟩⟩; (try first | exact ⟨rfl, _, World.drewN_drewN _ _ _⟩ | exact ⟨rfl, _, Eq.trans (World.drewN_drewN _ _ _) (congrArg (World.drewN _) (Nat.add_assoc _ _ _))⟩)))
     repeat (go_quiet (first | (go_at_call 44; (with_reducible refine (spec_Closing.calls kj1 js8 t102 _ A9.out).mono ?_); rintro e w' ⟨rfl, ⟨nd, rfl⟩⟩; (try first | exact ⟨rfl, _, World.drewN_drewN _ _ _⟩ | exact ⟨rfl, _, Eq.trans (World.drewN_drewN _ _ _) (congrArg (World.drewN _) (Nat.add_assoc _ _ _))⟩))); try go_wp2_with (first | (go_at_call 44; (with_reducible refine (spec_Closing.calls kj1 js8 t102 _ A9.out).mono ?_); rintro e w' ⟨rfl, ⟨nd, rfl⟩⟩; (try first | exact ⟨rfl, _, World.drewN_drewN _ _ _⟩ | exact ⟨rfl, _, Eq.trans (World.drewN_drewN _ _ _) (congrArg (World.drewN _) (Nat.add_assoc _ _ _))⟩))))
     go_ret3
     exact ⟨by first | rfl | (simp; done) | (simp [*]; done), by repeat (first | exact Drawn0.refl _ | apply Drawn0.step)⟩
    rw [if_neg c10] at H
    have c10b0 : decide (t102 < 0) = false := decide_eq_false c10
    clear c10
    obtain ⟨ji12, hji12⟩ : ∃ j_ : Int, (wrap64 (t102 + 2)) = j_ := ⟨_, rfl⟩
    replace H : (if 0 ≤ (ji12) then (if (ji12) ≤ (a0.size : Int) then ((spec_skipped.f kj1 (a0.extract ((ji12) : Int).toNat a0.size)).bind fun t103 => (if t103.toList = ([] : List UInt8) then (some ((⟨#[]⟩ : ByteArray), (⟨#[]⟩ : ByteArray), false)) else (if 0 < (t103.size : Int) then (if (bt t103 0) = 58 then (if 1 ≤ (wrap64 (t102 + 1)) then (if (wrap64 (t102 + 1)) ≤ (a0.size : Int) then (if 1 ≤ (t103.size : Int) then ((spec_skipped.f kj1 (t103.extract 1 t103.size)).bind fun t104 => (some (a0.extract 1 ((wrap64 (t102 + 1)) : Int).toNat, t104, true))) else (none)) else (none)) else (none)) else (some ((⟨#[]⟩ : ByteArray), (⟨#[]⟩ : ByteArray), false))) else (none)))) else (none)) else (none)) = some (r1, r2, r3) := by first | (rw [hji12] at H; exact H) | (simp only [hji12] at H ⊢; exact H)
    (try rw [hji12] at hjs8)
    (try rw [hji12] at A9)
    have hji12w : (IntKind.i64.wrap (t102 + 2)) = ji12 := (i64_w _).trans hji12
    by_cases c13 : 0 ≤ (ji12)
    ·rw [if_pos c13] at H
     have c13b0 := eq_true c13
     have c13b1 : decide (0 ≤ (ji12)) = true := decide_eq_true c13
     clear c13
     by_cases c14 : (ji12) ≤ (a0.size : Int)
     ·rw [if_pos c14] at H
      have c14b0 := eq_true c14
      have c14b1 : decide ((ji12) ≤ (a0.size : Int)) = true := decide_eq_true c14
      clear c14
      obtain ⟨js15, hjs15⟩ : ∃ z_ : ByteArray, (a0.extract ((ji12) : Int).toNat a0.size) = z_ := ⟨_, rfl⟩
      replace H : ((spec_skipped.f kj1 js15).bind fun t103 => (if t103.toList = ([] : List UInt8) then (some ((⟨#[]⟩ : ByteArray), (⟨#[]⟩ : ByteArray), false)) else (if 0 < (t103.size : Int) then (if (bt t103 0) = 58 then (if 1 ≤ (wrap64 (t102 + 1)) then (if (wrap64 (t102 + 1)) ≤ (a0.size : Int) then (if 1 ≤ (t103.size : Int) then ((spec_skipped.f kj1 (t103.extract 1 t103.size)).bind fun t104 => (some (a0.extract 1 ((wrap64 (t102 + 1)) : Int).toNat, t104, true))) else (none)) else (none)) else (none)) else (some ((⟨#[]⟩ : ByteArray), (⟨#[]⟩ : ByteArray), false))) else (none)))) = some (r1, r2, r3) := by first | (rw [hjs15] at H; exact H) | (simp only [hjs15] at H ⊢; exact H)
      replace H := Option.bind_eq_some_iff.mp H
      obtain ⟨t103, A160, H⟩ := H
      replace H : (if t103.toList = ([] : List UInt8) then (some ((⟨#[]⟩ : ByteArray), (⟨#[]⟩ : ByteArray), false)) else (if 0 < (t103.size : Int) then (if (bt t103 0) = 58 then (if 1 ≤ (wrap64 (t102 + 1)) then (if (wrap64 (t102 + 1)) ≤ (a0.size : Int) then (if 1 ≤ (t103.size : Int) then ((spec_skipped.f kj1 (t103.extract 1 t103.size)).bind fun t104 => (some (a0.extract 1 ((wrap64 (t102 + 1)) : Int).toNat, t104, true))) else (none)) else (none)) else (none)) else (some ((⟨#[]⟩ : ByteArray), (⟨#[]⟩ : ByteArray), false))) else (none))) = some (r1, r2, r3) := H
      have A16 := Aside0.mk A160
      clear A160
      by_cases c17 : t103.toList = ([] : List UInt8)
      ·rw [if_pos c17] at H
       have c17b0 : (t103.toList == ([] : List UInt8)) = true := beq_iff_eq.mpr c17
       have c17b1 : (t103.toList != ([] : List UInt8)) = false := bne_eq_false_iff_eq.mpr c17
       clear c17
       simp only [Option.some.injEq, Prod.mk.injEq] at H
       obtain ⟨rfl, rfl, rfl⟩ := H
       try have hcs18 := fun W_ : World => run_slice_string_l (P := Tryd.prog) W_ 9 a0 Tryd.underlying9 .i64 1 (by omega) (of_decide_eq_true (by assumption))
       (try simp only [hjs8] at hcs18)
       go_wp2_with (first | (go_at_call 44; (with_reducible refine (spec_Closing.calls kj1 js8 t102 _ A9.out).mono ?_); rintro e w' ⟨rfl, ⟨nd, rfl⟩⟩; (try first | exact ⟨rfl, _, World.drewN_drewN _ _ _⟩ | exact ⟨rfl, _, Eq.trans (World.drewN_drewN _ _ _) (congrArg (World.drewN _) (Nat.add_assoc _ _ _))⟩); try have hcs19 := fun W_ : World => run_slice_string_l (P := Tryd.prog) W_ 9 a0 Tryd.underlying9 .i64 (ji12) (of_decide_eq_true (by assumption)) (of_decide_eq_true (by assumption)); (try simp only [hjs15] at hcs19)) | (go_at_call 26; (with_reducible refine (spec_skipped.calls kj1 js15 t103 _ A16.out).mono ?_); rintro e w' ⟨rfl, ⟨nd, rfl⟩⟩; (try first | exact ⟨rfl, _, World.drewN_drewN _ _ _⟩ | exact ⟨rfl, _, Eq.trans (World.drewN_drewN _ _ _) (congrArg (World.drewN _) (Nat.add_assoc _ _ _))⟩)))
       repeat (go_quiet (first | (go_at_call 44; (with_reducible refine (spec_Closing.calls kj1 js8 t102 _ A9.out).mono ?_); rintro e w' ⟨rfl, ⟨nd, rfl⟩⟩; (try first | exact ⟨rfl, _, World.drewN_drewN _ _ _⟩ | exact ⟨rfl, _, Eq.trans (World.drewN_drewN _ _ _) (congrArg (World.drewN _) (Nat.add_assoc _ _ _))⟩); try have hcs19 := fun W_ : World => run_slice_string_l (P := Tryd.prog) W_ 9 a0 Tryd.underlying9 .i64 (ji12) (of_decide_eq_true (by assumption)) (of_decide_eq_true (by assumption)); (try simp only [hjs15] at hcs19)) | (go_at_call 26; (with_reducible refine (spec_skipped.calls kj1 js15 t103 _ A16.out).mono ?_); rintro e w' ⟨rfl, ⟨nd, rfl⟩⟩; (try first | exact ⟨rfl, _, World.drewN_drewN _ _ _⟩ | exact ⟨rfl, _, Eq.trans (World.drewN_drewN _ _ _) (congrArg (World.drewN _) (Nat.add_assoc _ _ _))⟩))); try go_wp2_with (first | (go_at_call 44; (with_reducible refine (spec_Closing.calls kj1 js8 t102 _ A9.out).mono ?_); rintro e w' ⟨rfl, ⟨nd, rfl⟩⟩; (try first | exact ⟨rfl, _, World.drewN_drewN _ _ _⟩ | exact ⟨rfl, _, Eq.trans (World.drewN_drewN _ _ _) (congrArg (World.drewN _) (Nat.add_assoc _ _ _))⟩); try have hcs19 := fun W_ : World => run_slice_string_l (P := Tryd.prog) W_ 9 a0 Tryd.underlying9 .i64 (ji12) (of_decide_eq_true (by assumption)) (of_decide_eq_true (by assumption)); (try simp only [hjs15] at hcs19)) | (go_at_call 26; (with_reducible refine (spec_skipped.calls kj1 js15 t103 _ A16.out).mono ?_); rintro e w' ⟨rfl, ⟨nd, rfl⟩⟩; (try first | exact ⟨rfl, _, World.drewN_drewN _ _ _⟩ | exact ⟨rfl, _, Eq.trans (World.drewN_drewN _ _ _) (congrArg (World.drewN _) (Nat.add_assoc _ _ _))⟩))))
       go_ret3
       exact ⟨by first | rfl | (simp; done) | (simp only [← hji12] <;> (first | rfl | (simp; done))) | (simp [*]; done), by repeat (first | exact Drawn0.refl _ | apply Drawn0.step)⟩
      rw [if_neg c17] at H
      have c17b0 : (t103.toList == ([] : List UInt8)) = false := beq_eq_false_iff_ne.mpr c17
      have c17b1 : (t103.toList != ([] : List UInt8)) = true := bne_iff_ne.mpr c17
      by_cases c20 : 0 < (t103.size : Int)
      ·rw [if_pos c20] at H
       have c20b0 : decide (0 < (t103.size : Int)) = true := decide_eq_true c20
       have c20b1 : decide (0 < t103.size) = true := decide_eq_true (by omega)
       clear c20
       by_cases c22 : (bt t103 0) = 58
       ·rw [if_pos c22] at H
        have c22b0 : ((bt t103 0) == 58) = true := beq_iff_eq.mpr c22
        have c22b1 : ((bt t103 0) != 58) = false := bne_eq_false_iff_eq.mpr c22
        clear c22
        by_cases c23 : 1 ≤ (wrap64 (t102 + 1))
        ·rw [if_pos c23] at H
         have c23b0 := eq_true c23
         have c23b1 : decide (1 ≤ (wrap64 (t102 + 1))) = true := decide_eq_true c23
         by_cases c24 : (wrap64 (t102 + 1)) ≤ (a0.size : Int)
         ·rw [if_pos c24] at H
          have c24b0 := eq_true c24
          have c24b1 : decide ((wrap64 (t102 + 1)) ≤ (a0.size : Int)) = true := decide_eq_true c24
          by_cases c25 : 1 ≤ (t103.size : Int)
          ·rw [if_pos c25] at H
           have c25b0 := eq_true c25
           have c25b1 : decide (1 ≤ (t103.size : Int)) = true := decide_eq_true c25
           clear c25
           obtain ⟨js26, hjs26⟩ : ∃ z_ : ByteArray, (t103.extract 1 t103.size) = z_ := ⟨_, rfl⟩
           replace H : ((spec_skipped.f kj1 js26).bind fun t104 => (some (a0.extract 1 ((wrap64 (t102 + 1)) : Int).toNat, t104, true))) = some (r1, r2, r3) := by first | (rw [hjs26] at H; exact H) | (simp only [hjs26] at H ⊢; exact H)
           replace H := Option.bind_eq_some_iff.mp H
           obtain ⟨t104, A270, H⟩ := H
           replace H : (some (a0.extract 1 ((wrap64 (t102 + 1)) : Int).toNat, t104, true)) = some (r1, r2, r3) := H
           have A27 := Aside0.mk A270
           clear A270
           simp only [Option.some.injEq, Prod.mk.injEq] at H
           obtain ⟨rfl, rfl, rfl⟩ := H
           try have hcs28 := fun W_ : World => run_slice_string_l (P := Tryd.prog) W_ 9 a0 Tryd.underlying9 .i64 1 (by omega) (of_decide_eq_true (by assumption))
           (try simp only [hjs8] at hcs28)
           go_wp2_with (first | (go_at_call 44; (with_reducible refine (spec_Closing.calls kj1 js8 t102 _ A9.out).mono ?_); rintro e w' ⟨rfl, ⟨nd, rfl⟩⟩; (try first | exact ⟨rfl, _, World.drewN_drewN _ _ _⟩ | exact ⟨rfl, _, Eq.trans (World.drewN_drewN _ _ _) (congrArg (World.drewN _) (Nat.add_assoc _ _ _))⟩); try have hcs29 := fun W_ : World => run_slice_string_l (P := Tryd.prog) W_ 9 a0 Tryd.underlying9 .i64 (ji12) (of_decide_eq_true (by assumption)) (of_decide_eq_true (by assumption)); (try simp only [hjs15] at hcs29)) | (go_at_call 26; (with_reducible refine (spec_skipped.calls kj1 js15 t103 _ A16.out).mono ?_); rintro e w' ⟨rfl, ⟨nd, rfl⟩⟩; (try first | exact ⟨rfl, _, World.drewN_drewN _ _ _⟩ | exact ⟨rfl, _, Eq.trans (World.drewN_drewN _ _ _) (congrArg (World.drewN _) (Nat.add_assoc _ _ _))⟩); have p21 : 0 ≤ (0 : Int) := (by omega); have q21 : 0 < t103.size := (by have : (0 : Int) < (t103.size : Int) := of_decide_eq_true (by assumption); omega); have hx21 : ∀ h : 0 < t103.size, ((t103[0]'h).toNat : Int) = bt t103 0 := bt_at t103 0; clear p21; have qi21 : (0 < (t103.size : Int)) = True := eq_true (of_decide_eq_true (by assumption)); replace q21 := eq_true q21; try have hcs30 := fun W_ : World => run_slice_string (P := Tryd.prog) W_ 9 a0 .i64 .i64 1 (wrap64 (t102 + 1)) Tryd.underlying9 (by omega) (of_decide_eq_true (by assumption)) (of_decide_eq_true (by assumption)); try have hcs31 := fun W_ : World => run_slice_string_l (P := Tryd.prog) W_ 9 t103 Tryd.underlying9 .i64 1 (by omega) (of_decide_eq_true (by assumption)); (try simp only [hjs26] at hcs31)) | (go_at_call 26; (with_reducible refine (spec_skipped.calls kj1 js26 t104 _ A27.out).mono ?_); rintro e w' ⟨rfl, ⟨nd, rfl⟩⟩; (try first | exact ⟨rfl, _, World.drewN_drewN _ _ _⟩ | exact ⟨rfl, _, Eq.trans (World.drewN_drewN _ _ _) (congrArg (World.drewN _) (Nat.add_assoc _ _ _))⟩)))
           repeat (go_quiet (first | (go_at_call 44; (with_reducible refine (spec_Closing.calls kj1 js8 t102 _ A9.out).mono ?_); rintro e w' ⟨rfl, ⟨nd, rfl⟩⟩; (try first | exact ⟨rfl, _, World.drewN_drewN _ _ _⟩ | exact ⟨rfl, _, Eq.trans (World.drewN_drewN _ _ _) (congrArg (World.drewN _) (Nat.add_assoc _ _ _))⟩); try have hcs29 := fun W_ : World => run_slice_string_l (P := Tryd.prog) W_ 9 a0 Tryd.underlying9 .i64 (ji12) (of_decide_eq_true (by assumption)) (of_decide_eq_true (by assumption)); (try simp only [hjs15] at hcs29)) | (go_at_call 26; (with_reducible refine (spec_skipped.calls kj1 js15 t103 _ A16.out).mono ?_); rintro e w' ⟨rfl, ⟨nd, rfl⟩⟩; (try first | exact ⟨rfl, _, World.drewN_drewN _ _ _⟩ | exact ⟨rfl, _, Eq.trans (World.drewN_drewN _ _ _) (congrArg (World.drewN _) (Nat.add_assoc _ _ _))⟩); have p21 : 0 ≤ (0 : Int) := (by omega); have q21 : 0 < t103.size := (by have : (0 : Int) < (t103.size : Int) := of_decide_eq_true (by assumption); omega); have hx21 : ∀ h : 0 < t103.size, ((t103[0]'h).toNat : Int) = bt t103 0 := bt_at t103 0; clear p21; have qi21 : (0 < (t103.size : Int)) = True := eq_true (of_decide_eq_true (by assumption)); replace q21 := eq_true q21; try have hcs30 := fun W_ : World => run_slice_string (P := Tryd.prog) W_ 9 a0 .i64 .i64 1 (wrap64 (t102 + 1)) Tryd.underlying9 (by omega) (of_decide_eq_true (by assumption)) (of_decide_eq_true (by assumption)); try have hcs31 := fun W_ : World => run_slice_string_l (P := Tryd.prog) W_ 9 t103 Tryd.underlying9 .i64 1 (by omega) (of_decide_eq_true (by assumption)); (try simp only [hjs26] at hcs31)) | (go_at_call 26; (with_reducible refine (spec_skipped.calls kj1 js26 t104 _ A27.out).mono ?_); rintro e w' ⟨rfl, ⟨nd, rfl⟩⟩; (try first | exact ⟨rfl, _, World.drewN_drewN _ _ _⟩ | exact ⟨rfl, _, Eq.trans (World.drewN_drewN _ _ _) (congrArg (World.drewN _) (Nat.add_assoc _ _ _))⟩))); try go_wp2_with (first | (go_at_call 44; (with_reducible refine (spec_Closing.calls kj1 js8 t102 _ A9.out).mono ?_); rintro e w' ⟨rfl, ⟨nd, rfl⟩⟩; (try first | exact ⟨rfl, _, World.drewN_drewN _ _ _⟩ | exact ⟨rfl, _, Eq.trans (World.drewN_drewN _ _ _) (congrArg (World.drewN _) (Nat.add_assoc _ _ _))⟩); try have hcs29 := fun W_ : World => run_slice_string_l (P := Tryd.prog) W_ 9 a0 Tryd.underlying9 .i64 (ji12) (of_decide_eq_true (by assumption)) (of_decide_eq_true (by assumption)); (try simp only [hjs15] at hcs29)) | (go_at_call 26; (with_reducible refine (spec_skipped.calls kj1 js15 t103 _ A16.out).mono ?_); rintro e w' ⟨rfl, ⟨nd, rfl⟩⟩; (try first | exact ⟨rfl, _, World.drewN_drewN _ _ _⟩ | exact ⟨rfl, _, Eq.trans (World.drewN_drewN _ _ _) (congrArg (World.drewN _) (Nat.add_assoc _ _ _))⟩); have p21 : 0 ≤ (0 : Int) := (by omega); have q21 : 0 < t103.size := (by have : (0 : Int) < (t103.size : Int) := of_decide_eq_true (by assumption); omega); have hx21 : ∀ h : 0 < t103.size, ((t103[0]'h).toNat : Int) = bt t103 0 := bt_at t103 0; clear p21; have qi21 : (0 < (t103.size : Int)) = True := eq_true (of_decide_eq_true (by assumption)); replace q21 := eq_true q21; try have hcs30 := fun W_ : World => run_slice_string (P := Tryd.prog) W_ 9 a0 .i64 .i64 1 (wrap64 (t102 + 1)) Tryd.underlying9 (by omega) (of_decide_eq_true (by assumption)) (of_decide_eq_true (by assumption)); try have hcs31 := fun W_ : World => run_slice_string_l (P := Tryd.prog) W_ 9 t103 Tryd.underlying9 .i64 1 (by omega) (of_decide_eq_true (by assumption)); (try simp only [hjs26] at hcs31)) | (go_at_call 26; (with_reducible refine (spec_skipped.calls kj1 js26 t104 _ A27.out).mono ?_); rintro e w' ⟨rfl, ⟨nd, rfl⟩⟩; (try first | exact ⟨rfl, _, World.drewN_drewN _ _ _⟩ | exact ⟨rfl, _, Eq.trans (World.drewN_drewN _ _ _) (congrArg (World.drewN _) (Nat.add_assoc _ _ _))⟩))))
           go_ret3
           exact ⟨by first | rfl | (simp; done) | (simp only [← hji12] <;> (first | rfl | (simp; done))) | (simp [*]; done), by repeat (first | exact Drawn0.refl _ | apply Drawn0.step)⟩
          rw [if_neg c25] at H
          exact absurd H (by simp)
         rw [if_neg c24] at H
         exact absurd H (by simp)
        rw [if_neg c23] at H
        exact absurd H (by simp)
       rw [if_neg c22] at H
       have c22b0 : ((bt t103 0) == 58) = false := beq_eq_false_iff_ne.mpr c22
       have c22b1 : ((bt t103 0) != 58) = true := bne_iff_ne.mpr c22
       simp only [Option.some.injEq, Prod.mk.injEq] at H
       obtain ⟨rfl, rfl, rfl⟩ := H
       try have hcs32 := fun W_ : World => run_slice_string_l (P := Tryd.prog) W_ 9 a0 Tryd.underlying9 .i64 1 (by omega) (of_decide_eq_true (by assumption))
       (try simp only [hjs8] at hcs32)
       go_wp2_with (first | (go_at_call 44; (with_reducible refine (spec_Closing.calls kj1 js8 t102 _ A9.out).mono ?_); rintro e w' ⟨rfl, ⟨nd, rfl⟩⟩; (try first | exact ⟨rfl, _, World.drewN_drewN _ _ _⟩ | exact ⟨rfl, _, Eq.trans (World.drewN_drewN _ _ _) (congrArg (World.drewN _) (Nat.add_assoc _ _ _))⟩); try have hcs33 := fun W_ : World => run_slice_string_l (P := Tryd.prog) W_ 9 a0 Tryd.underlying9 .i64 (ji12) (of_decide_eq_true (by assumption)) (of_decide_eq_true (by assumption)); (try simp only [hjs15] at hcs33)) | (go_at_call 26; (with_reducible refine (spec_skipped.calls kj1 js15 t103 _ A16.out).mono ?_); rintro e w' ⟨rfl, ⟨nd, rfl⟩⟩; (try first | exact ⟨rfl, _, World.drewN_drewN _ _ _⟩ | exact ⟨rfl, _, Eq.trans (World.drewN_drewN _ _ _) (congrArg (World.drewN _) (Nat.add_assoc _ _ _))⟩); have p21 : 0 ≤ (0 : Int) := (by omega); have q21 : 0 < t103.size := (by have : (0 : Int) < (t103.size : Int) := of_decide_eq_true (by assumption); omega); have hx21 : ∀ h : 0 < t103.size, ((t103[0]'h).toNat : Int) = bt t103 0 := bt_at t103 0; clear p21; have qi21 : (0 < (t103.size : Int)) = True := eq_true (of_decide_eq_true (by assumption)); replace q21 := eq_true q21))
       repeat (go_quiet (first | (go_at_call 44; (with_reducible refine (spec_Closing.calls kj1 js8 t102 _ A9.out).mono ?_); rintro e w' ⟨rfl, ⟨nd, rfl⟩⟩; (try first | exact ⟨rfl, _, World.drewN_drewN _ _ _⟩ | exact ⟨rfl, _, Eq.trans (World.drewN_drewN _ _ _) (congrArg (World.drewN _) (Nat.add_assoc _ _ _))⟩); try have hcs33 := fun W_ : World => run_slice_string_l (P := Tryd.prog) W_ 9 a0 Tryd.underlying9 .i64 (ji12) (of_decide_eq_true (by assumption)) (of_decide_eq_true (by assumption)); (try simp only [hjs15] at hcs33)) | (go_at_call 26; (with_reducible refine (spec_skipped.calls kj1 js15 t103 _ A16.out).mono ?_); rintro e w' ⟨rfl, ⟨nd, rfl⟩⟩; (try first | exact ⟨rfl, _, World.drewN_drewN _ _ _⟩ | exact ⟨rfl, _, Eq.trans (World.drewN_drewN _ _ _) (congrArg (World.drewN _) (Nat.add_assoc _ _ _))⟩); have p21 : 0 ≤ (0 : Int) := (by omega); have q21 : 0 < t103.size := (by have : (0 : Int) < (t103.size : Int) := of_decide_eq_true (by assumption); omega); have hx21 : ∀ h : 0 < t103.size, ((t103[0]'h).toNat : Int) = bt t103 0 := bt_at t103 0; clear p21; have qi21 : (0 < (t103.size : Int)) = True := eq_true (of_decide_eq_true (by assumption)); replace q21 := eq_true q21)); try go_wp2_with (first | (go_at_call 44; (with_reducible refine (spec_Closing.calls kj1 js8 t102 _ A9.out).mono ?_); rintro e w' ⟨rfl, ⟨nd, rfl⟩⟩; (try first | exact ⟨rfl, _, World.drewN_drewN _ _ _⟩ | exact ⟨rfl, _, Eq.trans (World.drewN_drewN _ _ _) (congrArg (World.drewN _) (Nat.add_assoc _ _ _))⟩); try have hcs33 := fun W_ : World => run_slice_string_l (P := Tryd.prog) W_ 9 a0 Tryd.underlying9 .i64 (ji12) (of_decide_eq_true (by assumption)) (of_decide_eq_true (by assumption)); (try simp only [hjs15] at hcs33)) | (go_at_call 26; (with_reducible refine (spec_skipped.calls kj1 js15 t103 _ A16.out).mono ?_); rintro e w' ⟨rfl, ⟨nd, rfl⟩⟩; (try first | exact ⟨rfl, _, World.drewN_drewN _ _ _⟩ | exact ⟨rfl, _, Eq.trans (World.drewN_drewN _ _ _) (congrArg (World.drewN _) (Nat.add_assoc _ _ _))⟩); have p21 : 0 ≤ (0 : Int) := (by omega); have q21 : 0 < t103.size := (by have : (0 : Int) < (t103.size : Int) := of_decide_eq_true (by assumption); omega); have hx21 : ∀ h : 0 < t103.size, ((t103[0]'h).toNat : Int) = bt t103 0 := bt_at t103 0; clear p21; have qi21 : (0 < (t103.size : Int)) = True := eq_true (of_decide_eq_true (by assumption)); replace q21 := eq_true q21)))
       go_ret3
       exact ⟨by first | rfl | (simp; done) | (simp only [← hji12] <;> (first | rfl | (simp; done))) | (simp [*]; done), by repeat (first | exact Drawn0.refl _ | apply Drawn0.step)⟩
      rw [if_neg c20] at H
      exact absurd H (by simp)
     rw [if_neg c14] at H
     exact absurd H (by simp)
    rw [if_neg c13] at H
    exact absurd H (by simp)
   rw [if_neg c7] at H
   exact absurd H (by simp)
end Go.Proofs.YtnajijaachgipaaDoor.PT
end
section
namespace Go.Proofs.YtnajijaachgipaaDoor.PT
open Go.RowKit Go.Proofs.YtnajijaachgipaaDoorW.PrintWords Go.Proofs.YtnajijaachgipaaDoorW.PrintLast Go.Proofs.YtnajijaachgipaaDoorW.PrintMore
attribute [local go_sem] max2_int min2_int max_two min_two max_three min_three max_four min_four   -- for this text's walks alone
set_option linter.unusedVariables false
set_option linter.unusedSimpArgs false
/-! ### spec_NumberBytes: function 67 -/
def spec_NumberBytes.l0 : Nat → ByteArray → Int → Option (Int)
 | 0, _, _ => none
 | k + 1, x0, x3 => if x3 < (x0.size : Int) then (if 0 ≤ x3 then (if 48 ≤ (bt x0 x3) then (if (bt x0 x3) ≤ 57 then (spec_NumberBytes.l0 k x0 (wrap64 (x3 + 1))) else (if (bt x0 x3) = 46 then (spec_NumberBytes.l0 k x0 (wrap64 (x3 + 1))) else (if (bt x0 x3) = 45 then (spec_NumberBytes.l0 k x0 (wrap64 (x3 + 1))) else (if (bt x0 x3) = 43 then (spec_NumberBytes.l0 k x0 (wrap64 (x3 + 1))) else (if (bt x0 x3) = 101 then (spec_NumberBytes.l0 k x0 (wrap64 (x3 + 1))) else (if (bt x0 x3) = 69 then (spec_NumberBytes.l0 k x0 (wrap64 (x3 + 1))) else (some x3))))))) else (if (bt x0 x3) = 46 then (spec_NumberBytes.l0 k x0 (wrap64 (x3 + 1))) else (if (bt x0 x3) = 45 then (spec_NumberBytes.l0 k x0 (wrap64 (x3 + 1))) else (if (bt x0 x3) = 43 then (spec_NumberBytes.l0 k x0 (wrap64 (x3 + 1))) else (if (bt x0 x3) = 101 then (spec_NumberBytes.l0 k x0 (wrap64 (x3 + 1))) else (if (bt x0 x3) = 69 then (spec_NumberBytes.l0 k x0 (wrap64 (x3 + 1))) else (some x3))))))) else (none)) else (some x3)
def spec_NumberBytes.f (k : Nat) (a0 : ByteArray) : Option (Int) := spec_NumberBytes.l0 k a0 0
theorem spec_NumberBytes.mono_l : ∀ k, (∀ y0 y1, LeO (spec_NumberBytes.l0 k y0 y1) (spec_NumberBytes.l0 (k + 1) y0 y1))
 | 0 => fun _ _ r h => by simp [spec_NumberBytes.l0] at h
 | k + 1 => by
  have ih0 := spec_NumberBytes.mono_l k
  ·intro y0 y1
   unfold spec_NumberBytes.l0
   repeat' first
   | (with_reducible exact ih0 _ _)
   | (with_reducible exact LeO.refl _)
   | (with_reducible exact LeO.none _)
   | (with_reducible refine LeO.ite ?_ ?_)
   | (with_reducible refine LeO.bind ?_ (fun _ => ?_))
   | exact ih0 _ _
   | exact LeO.none _
   | refine LeO.ite ?_ ?_
   | refine LeO.bind ?_ (fun _ => ?_)
theorem spec_NumberBytes.mono : ∀ a0 k, LeO (spec_NumberBytes.f k a0) (spec_NumberBytes.f (k + 1) a0) := by
 intro a0 k
 have ih0 := spec_NumberBytes.mono_l k
 unfold spec_NumberBytes.f
 repeat' first
   | (with_reducible exact ih0 _ _)
   | (with_reducible exact LeO.refl _)
   | (with_reducible exact LeO.none _)
   | (with_reducible refine LeO.ite ?_ ?_)
   | (with_reducible refine LeO.bind ?_ (fun _ => ?_))
   | exact ih0 _ _
   | exact LeO.none _
   | refine LeO.ite ?_ ?_
   | refine LeO.bind ?_ (fun _ => ?_)
set_option maxHeartbeats 8000000 in
set_option maxRecDepth 100000 in
theorem spec_NumberBytes.calls (k : Nat) (a0 : ByteArray) (r : Int) (w : World) (h : spec_NumberBytes.f k a0 = some r) :
  Calls Tryd.prog 67 #[.string a0] w fun e w' => e = .returned (.int .i64 r) ∧ Drawn0 w w' := by
 have H : (spec_NumberBytes.l0 k a0 0) = some r := h
 clear h
 have H' := Aside0.mk H
 clear H
 go_enter Tryd.func67, Tryd.ntmps67
 go_wp2
 try simp only [Act.put, List.setIfInBounds_toArray, List.set_cons_succ, List.set_cons_zero]
 go_loopg [3] k (fun kq v3 w' => ∃ (x3_1 : Int), v3 = .int .i64 x3_1 ∧ Aside0 (spec_NumberBytes.l0 kq a0 x3_1 = some r) ∧ Aside0 (kq ≤ k) ∧ Drawn0 w w')
 case atStart => exact ⟨(0), (by first | rfl | (simp; done) | (simp [*]; done)), H', ⟨Nat.le_refl _⟩, by repeat (first | exact Drawn0.refl _ | apply Drawn0.step)⟩
 case round =>
  clear H'
  obtain ⟨x3_1, rfl, HA, HK1, ⟨m1, rfl⟩⟩ := hrel
  cases gk with
  | zero => exact absurd HA.out (by simp [spec_NumberBytes.l0])
  | succ k1 =>
   have H := HA.out
   clear HA
   simp only [spec_NumberBytes.l0] at H
   by_cases c2 : x3_1 < (a0.size : Int)
   ·rw [if_pos c2] at H
    have c2b0 : decide (x3_1 < (a0.size : Int)) = true := decide_eq_true c2
    clear c2
    by_cases c3 : 0 ≤ x3_1
    ·rw [if_pos c3] at H
     have c3b0 : decide (0 ≤ x3_1) = true := decide_eq_true c3
     clear c3
     by_cases c5 : 48 ≤ (bt a0 x3_1)
     ·rw [if_pos c5] at H
      have c5b0 : decide (48 ≤ (bt a0 x3_1)) = true := decide_eq_true c5
      clear c5
      by_cases c7 : (bt a0 x3_1) ≤ 57
      ·rw [if_pos c7] at H
       have c7b0 : decide ((bt a0 x3_1) ≤ 57) = true := decide_eq_true c7
       clear c7
       have H' := Aside0.mk H
       clear H
       have p4 : 0 ≤ (x3_1 : Int) := of_decide_eq_true (by assumption)
       have q4 : x3_1 < (a0.size : Int) := of_decide_eq_true (by assumption)
       have hx4 := bt_at a0 x3_1
       replace p4 := eq_true p4
       replace q4 := eq_true q4
       have p6 : 0 ≤ (x3_1 : Int) := of_decide_eq_true (by assumption)
       have q6 : x3_1 < (a0.size : Int) := of_decide_eq_true (by assumption)
       have hx6 := bt_at a0 x3_1
       replace p6 := eq_true p6
       replace q6 := eq_true q6
       go_wp2
       go_roundg k1
       case measure => have := HK1.out; omega
       case rel => exact ⟨(wrap64 (x3_1 + 1)), (by first | rfl | (simp; done) | (simp [*]; done)), H', ⟨by have := HK1.out; omega⟩, by repeat (first | exact Drawn0.refl _ | apply Drawn0.step)⟩
      rw [if_neg c7] at H
      have c7b0 : decide ((bt a0 x3_1) ≤ 57) = false := decide_eq_false c7
      clear c7
      by_cases c9 : (bt a0 x3_1) = 46
      ·rw [if_pos c9] at H
       have c9b0 : ((bt a0 x3_1) == 46) = true := beq_iff_eq.mpr c9
       have c9b1 : ((bt a0 x3_1) != 46) = false := bne_eq_false_iff_eq.mpr c9
       clear c9
       have H' := Aside0.mk H
       clear H
       have p4 : 0 ≤ (x3_1 : Int) := of_decide_eq_true (by assumption)
       have q4 : x3_1 < (a0.size : Int) := of_decide_eq_true (by assumption)
       have hx4 := bt_at a0 x3_1
       replace p4 := eq_true p4
       replace q4 := eq_true q4
       have p6 : 0 ≤ (x3_1 : Int) := of_decide_eq_true (by assumption)
       have q6 : x3_1 < (a0.size : Int) := of_decide_eq_true (by assumption)
       have hx6 := bt_at a0 x3_1
       replace p6 := eq_true p6
       replace q6 := eq_true q6
       have p8 : 0 ≤ (x3_1 : Int) := of_decide_eq_true (by assumption)
       have q8 : x3_1 < (a0.size : Int) := of_decide_eq_true (by assumption)
       have hx8 := bt_at a0 x3_1
       replace p8 := eq_true p8
       replace q8 := eq_true q8
       go_wp2
       go_roundg k1
       case measure => have := HK1.out; omega
       case rel => exact ⟨(wrap64 (x3_1 + 1)), (by first | rfl | (simp; done) | (simp [*]; done)), H', ⟨by have := HK1.out; omega⟩, by repeat (first | exact Drawn0.refl _ | apply Drawn0.step)⟩
      rw [if_neg c9] at H
      have c9b0 : ((bt a0 x3_1) == 46) = false := beq_eq_false_iff_ne.mpr c9
      have c9b1 : ((bt a0 x3_1) != 46) = true := bne_iff_ne.mpr c9
      by_cases c11 : (bt a0 x3_1) = 45
      ·rw [if_pos c11] at H
       have c11b0 : ((bt a0 x3_1) == 45) = true := beq_iff_eq.mpr c11
       have c11b1 : ((bt a0 x3_1) != 45) = false := bne_eq_false_iff_eq.mpr c11
       clear c11
       have H' := Aside0.mk H
       clear H
       have p4 : 0 ≤ (x3_1 : Int) := of_decide_eq_true (by assumption)
       have q4 : x3_1 < (a0.size : Int) := of_decide_eq_true (by assumption)
       have hx4 := bt_at a0 x3_1
       replace p4 := eq_true p4
       replace q4 := eq_true q4
       have p6 : 0 ≤ (x3_1 : Int) := of_decide_eq_true (by assumption)
       have q6 : x3_1 < (a0.size : Int) := of_decide_eq_true (by assumption)
       have hx6 := bt_at a0 x3_1
       replace p6 := eq_true p6
       replace q6 := eq_true q6
       have p8 : 0 ≤ (x3_1 : Int) := of_decide_eq_true (by assumption)
       have q8 : x3_1 < (a0.size : Int) := of_decide_eq_true (by assumption)
       have hx8 := bt_at a0 x3_1
       replace p8 := eq_true p8
       replace q8 := eq_true q8
       have p10 : 0 ≤ (x3_1 : Int) := of_decide_eq_true (by assumption)
       have q10 : x3_1 < (a0.size : Int) := of_decide_eq_true (by assumption)
       have hx10 := bt_at a0 x3_1
       replace p10 := eq_true p10
       replace q10 := eq_true q10
       go_wp2
       go_roundg k1
       case measure => have := HK1.out; omega
       case rel => exact ⟨(wrap64 (x3_1 + 1)), (by first | rfl | (simp; done) | (simp [*]; done)), H', ⟨by have := HK1.out; omega⟩, by repeat (first | exact Drawn0.refl _ | apply Drawn0.step)⟩
      rw [if_neg c11] at H
      have c11b0 : ((bt a0 x3_1) == 45) = false := beq_eq_false_iff_ne.mpr c11
      have c11b1 : ((bt a0 x3_1) != 45) = true := bne_iff_ne.mpr c11
      by_cases c13 : (bt a0 x3_1) = 43
      ·rw [if_pos c13] at H
       have c13b0 : ((bt a0 x3_1) == 43) = true := beq_iff_eq.mpr c13
       have c13b1 : ((bt a0 x3_1) != 43) = false := bne_eq_false_iff_eq.mpr c13
       clear c13
       have H' := Aside0.mk H
       clear H
       have p4 : 0 ≤ (x3_1 : Int) := of_decide_eq_true (by assumption)
       have q4 : x3_1 < (a0.size : Int) := of_decide_eq_true (by assumption)
       have hx4 := bt_at a0 x3_1
       replace p4 := eq_true p4
       replace q4 := eq_true q4
       have p6 : 0 ≤ (x3_1 : Int) := of_decide_eq_true (by assumption)
       have q6 : x3_1 < (a0.size : Int) := of_decide_eq_true (by assumption)
       have hx6 := bt_at a0 x3_1
       replace p6 := eq_true p6
       replace q6 := eq_true q6
       have p8 : 0 ≤ (x3_1 : Int) := of_decide_eq_true (by assumption)
       have q8 : x3_1 < (a0.size : Int) := of_decide_eq_true (by assumption)
       have hx8 := bt_at a0 x3_1
       replace p8 := eq_true p8
       replace q8 := eq_true q8
       have p10 : 0 ≤ (x3_1 : Int) := of_decide_eq_true (by assumption)
       have q10 : x3_1 < (a0.size : Int) := of_decide_eq_true (by assumption)
       have hx10 := bt_at a0 x3_1
       replace p10 := eq_true p10
       replace q10 := eq_true q10
       have p12 : 0 ≤ (x3_1 : Int) := of_decide_eq_true (by assumption)
       have q12 : x3_1 < (a0.size : Int) := of_decide_eq_true (by assumption)
       have hx12 := bt_at a0 x3_1
       replace p12 := eq_true p12
       replace q12 := eq_true q12
       go_wp2
       go_roundg k1
       case measure => have := HK1.out; omega
       case rel => exact ⟨(wrap64 (x3_1 + 1)), (by first | rfl | (simp; done) | (simp [*]; done)), H', ⟨by have := HK1.out; omega⟩, by repeat (first | exact Drawn0.refl _ | apply Drawn0.step)⟩
      rw [if_neg c13] at H
      have c13b0 : ((bt a0 x3_1) == 43) = false := beq_eq_false_iff_ne.mpr c13
      have c13b1 : ((bt a0 x3_1) != 43) = true := bne_iff_ne.mpr c13
      by_cases c15 : (bt a0 x3_1) = 101
      ·rw [if_pos c15] at H
       have c15b0 : ((bt a0 x3_1) == 101) = true := beq_iff_eq.mpr c15
       have c15b1 : ((bt a0 x3_1) != 101) = false := bne_eq_false_iff_eq.mpr c15
       clear c15
       have H' := Aside0.mk H
       clear H
       have p4 : 0 ≤ (x3_1 : Int) := of_decide_eq_true (by assumption)
       have q4 : x3_1 < (a0.size : Int) := of_decide_eq_true (by assumption)
       have hx4 := bt_at a0 x3_1
       replace p4 := eq_true p4
       replace q4 := eq_true q4
       have p6 : 0 ≤ (x3_1 : Int) := of_decide_eq_true (by assumption)
       have q6 : x3_1 < (a0.size : Int) := of_decide_eq_true (by assumption)
       have hx6 := bt_at a0 x3_1
       replace p6 := eq_true p6
       replace q6 := eq_true q6
       have p8 : 0 ≤ (x3_1 : Int) := of_decide_eq_true (by assumption)
       have q8 : x3_1 < (a0.size : Int) := of_decide_eq_true (by assumption)
       have hx8 := bt_at a0 x3_1
       replace p8 := eq_true p8
       replace q8 := eq_true q8
       have p10 : 0 ≤ (x3_1 : Int) := of_decide_eq_true (by assumption)
       have q10 : x3_1 < (a0.size : Int) := of_decide_eq_true (by assumption)
       have hx10 := bt_at a0 x3_1
       replace p10 := eq_true p10
       replace q10 := eq_true q10
       have p12 : 0 ≤ (x3_1 : Int) := of_decide_eq_true (by assumption)
       have q12 : x3_1 < (a0.size : Int) := of_decide_eq_true (by assumption)
       have hx12 := bt_at a0 x3_1
       replace p12 := eq_true p12
       replace q12 := eq_true q12
       have p14 : 0 ≤ (x3_1 : Int) := of_decide_eq_true (by assumption)
       have q14 : x3_1 < (a0.size : Int) := of_decide_eq_true (by assumption)
       have hx14 := bt_at a0 x3_1
       replace p14 := eq_true p14
       replace q14 := eq_true q14
       go_wp2
       go_roundg k1
       case measure => have := HK1.out; omega
       case rel => exact ⟨(wrap64 (x3_1 + 1)), (by first | rfl | (simp; done) | (simp [*]; done)), H', ⟨by have := HK1.out; omega⟩, by repeat (first | exact Drawn0.refl _ | apply Drawn0.step)⟩
      rw [if_neg c15] at H
      have c15b0 : ((bt a0 x3_1) == 101) = false := beq_eq_false_iff_ne.mpr c15
      have c15b1 : ((bt a0 x3_1) != 101) = true := bne_iff_ne.mpr c15
      by_cases c17 : (bt a0 x3_1) = 69
      ·rw [if_pos c17] at H
       have c17b0 : ((bt a0 x3_1) == 69) = true := beq_iff_eq.mpr c17
       have c17b1 : ((bt a0 x3_1) != 69) = false := bne_eq_false_iff_eq.mpr c17
       clear c17
       have H' := Aside0.mk H
       clear H
       have p4 : 0 ≤ (x3_1 : Int) := of_decide_eq_true (by assumption)
       have q4 : x3_1 < (a0.size : Int) := of_decide_eq_true (by assumption)
       have hx4 := bt_at a0 x3_1
       replace p4 := eq_true p4
       replace q4 := eq_true q4
       have p6 : 0 ≤ (x3_1 : Int) := of_decide_eq_true (by assumption)
       have q6 : x3_1 < (a0.size : Int) := of_decide_eq_true (by assumption)
       have hx6 := bt_at a0 x3_1
       replace p6 := eq_true p6
       replace q6 := eq_true q6
       have p8 : 0 ≤ (x3_1 : Int) := of_decide_eq_true (by assumption)
       have q8 : x3_1 < (a0.size : Int) := of_decide_eq_true (by assumption)
       have hx8 := bt_at a0 x3_1
       replace p8 := eq_true p8
       replace q8 := eq_true q8
       have p10 : 0 ≤ (x3_1 : Int) := of_decide_eq_true (by assumption)
       have q10 : x3_1 < (a0.size : Int) := of_decide_eq_true (by assumption)
       have hx10 := bt_at a0 x3_1
       replace p10 := eq_true p10
       replace q10 := eq_true q10
       have p12 : 0 ≤ (x3_1 : Int) := of_decide_eq_true (by assumption)
       have q12 : x3_1 < (a0.size : Int) := of_decide_eq_true (by assumption)
       have hx12 := bt_at a0 x3_1
       replace p12 := eq_true p12
       replace q12 := eq_true q12
       have p14 : 0 ≤ (x3_1 : Int) := of_decide_eq_true (by assumption)
       have q14 : x3_1 < (a0.size : Int) := of_decide_eq_true (by assumption)
       have hx14 := bt_at a0 x3_1
       replace p14 := eq_true p14
       replace q14 := eq_true q14
       have p16 : 0 ≤ (x3_1 : Int) := of_decide_eq_true (by assumption)
       have q16 : x3_1 < (a0.size : Int) := of_decide_eq_true (by assumption)
       have hx16 := bt_at a0 x3_1
       replace p16 := eq_true p16
       replace q16 := eq_true q16
       go_wp2
       go_roundg k1
       case measure => have := HK1.out; omega
       case rel => exact ⟨(wrap64 (x3_1 + 1)), (by first | rfl | (simp; done) | (simp [*]; done)), H', ⟨by have := HK1.out; omega⟩, by repeat (first | exact Drawn0.refl _ | apply Drawn0.step)⟩
      rw [if_neg c17] at H
      have c17b0 : ((bt a0 x3_1) == 69) = false := beq_eq_false_iff_ne.mpr c17
      have c17b1 : ((bt a0 x3_1) != 69) = true := bne_iff_ne.mpr c17
      obtain rfl := Option.some.inj H
      have p4 : 0 ≤ (x3_1 : Int) := of_decide_eq_true (by assumption)
      have q4 : x3_1 < (a0.size : Int) := of_decide_eq_true (by assumption)
      have hx4 := bt_at a0 x3_1
      replace p4 := eq_true p4
      replace q4 := eq_true q4
      have p6 : 0 ≤ (x3_1 : Int) := of_decide_eq_true (by assumption)
      have q6 : x3_1 < (a0.size : Int) := of_decide_eq_true (by assumption)
      have hx6 := bt_at a0 x3_1
      replace p6 := eq_true p6
      replace q6 := eq_true q6
      have p8 : 0 ≤ (x3_1 : Int) := of_decide_eq_true (by assumption)
      have q8 : x3_1 < (a0.size : Int) := of_decide_eq_true (by assumption)
      have hx8 := bt_at a0 x3_1
      replace p8 := eq_true p8
      replace q8 := eq_true q8
      have p10 : 0 ≤ (x3_1 : Int) := of_decide_eq_true (by assumption)
      have q10 : x3_1 < (a0.size : Int) := of_decide_eq_true (by assumption)
      have hx10 := bt_at a0 x3_1
      replace p10 := eq_true p10
      replace q10 := eq_true q10
      have p12 : 0 ≤ (x3_1 : Int) := of_decide_eq_true (by assumption)
      have q12 : x3_1 < (a0.size : Int) := of_decide_eq_true (by assumption)
      have hx12 := bt_at a0 x3_1
      replace p12 := eq_true p12
      replace q12 := eq_true q12
      have p14 : 0 ≤ (x3_1 : Int) := of_decide_eq_true (by assumption)
      have q14 : x3_1 < (a0.size : Int) := of_decide_eq_true (by assumption)
      have hx14 := bt_at a0 x3_1
      replace p14 := eq_true p14
      replace q14 := eq_true q14
      have p16 : 0 ≤ (x3_1 : Int) := of_decide_eq_true (by assumption)
      have q16 : x3_1 < (a0.size : Int) := of_decide_eq_true (by assumption)
      have hx16 := bt_at a0 x3_1
      replace p16 := eq_true p16
      replace q16 := eq_true q16
      go_wp2
      go_ret
      exact ⟨by first | rfl | (simp; done) | (simp [*]; done), by repeat (first | exact Drawn0.refl _ | apply Drawn0.step)⟩
     rw [if_neg c5] at H
     have c5b0 : decide (48 ≤ (bt a0 x3_1)) = false := decide_eq_false c5
     clear c5
     by_cases c19 : (bt a0 x3_1) = 46
     ·rw [if_pos c19] at H
      have c19b0 : ((bt a0 x3_1) == 46) = true := beq_iff_eq.mpr c19
      have c19b1 : ((bt a0 x3_1) != 46) = false := bne_eq_false_iff_eq.mpr c19
      clear c19
      have H' := Aside0.mk H
      clear H
      have p4 : 0 ≤ (x3_1 : Int) := of_decide_eq_true (by assumption)
      have q4 : x3_1 < (a0.size : Int) := of_decide_eq_true (by assumption)
      have hx4 := bt_at a0 x3_1
      replace p4 := eq_true p4
      replace q4 := eq_true q4
      have p18 : 0 ≤ (x3_1 : Int) := of_decide_eq_true (by assumption)
      have q18 : x3_1 < (a0.size : Int) := of_decide_eq_true (by assumption)
      have hx18 := bt_at a0 x3_1
      replace p18 := eq_true p18
      replace q18 := eq_true q18
      go_wp2
      go_roundg k1
      case measure => have := HK1.out; omega
      case rel => exact ⟨(wrap64 (x3_1 + 1)), (by first | rfl | (simp; done) | (simp [*]; done)), H', ⟨by have := HK1.out; omega⟩, by repeat (first | exact Drawn0.refl _ | apply Drawn0.step)⟩
     rw [if_neg c19] at H
     have c19b0 : ((bt a0 x3_1) == 46) = false := beq_eq_false_iff_ne.mpr c19
     have c19b1 : ((bt a0 x3_1) != 46) = true := bne_iff_ne.mpr c19
     by_cases c21 : (bt a0 x3_1) = 45
     ·rw [if_pos c21] at H
      have c21b0 : ((bt a0 x3_1) == 45) = true := beq_iff_eq.mpr c21
      have c21b1 : ((bt a0 x3_1) != 45) = false := bne_eq_false_iff_eq.mpr c21
      clear c21
      have H' := Aside0.mk H
      clear H
      have p4 : 0 ≤ (x3_1 : Int) := of_decide_eq_true (by assumption)
      have q4 : x3_1 < (a0.size : Int) := of_decide_eq_true (by assumption)
      have hx4 := bt_at a0 x3_1
      replace p4 := eq_true p4
      replace q4 := eq_true q4
      have p18 : 0 ≤ (x3_1 : Int) := of_decide_eq_true (by assumption)
      have q18 : x3_1 < (a0.size : Int) := of_decide_eq_true (by assumption)
      have hx18 := bt_at a0 x3_1
      replace p18 := eq_true p18
      replace q18 := eq_true q18
      have p20 : 0 ≤ (x3_1 : Int) := of_decide_eq_true (by assumption)
      have q20 : x3_1 < (a0.size : Int) := of_decide_eq_true (by assumption)
      have hx20 := bt_at a0 x3_1
      replace p20 := eq_true p20
      replace q20 := eq_true q20
      go_wp2
      go_roundg k1
      case measure => have := HK1.out; omega
      case rel => exact ⟨(wrap64 (x3_1 + 1)), (by first | rfl | (simp; done) | (simp [*]; done)), H', ⟨by have := HK1.out; omega⟩, by repeat (first | exact Drawn0.refl _ | apply Drawn0.step)⟩
     rw [if_neg c21] at H
     have c21b0 : ((bt a0 x3_1) == 45) = false := beq_eq_false_iff_ne.mpr c21
     have c21b1 : ((bt a0 x3_1) != 45) = true := bne_iff_ne.mpr c21
     by_cases c23 : (bt a0 x3_1) = 43
     ·rw [if_pos c23] at H
      have c23b0 : ((bt a0 x3_1) == 43) = true := beq_iff_eq.mpr c23
      have c23b1 : ((bt a0 x3_1) != 43) = false := bne_eq_false_iff_eq.mpr c23
      clear c23
      have H' := Aside0.mk H
      clear H
      have p4 : 0 ≤ (x3_1 : Int) := of_decide_eq_true (by assumption)
      have q4 : x3_1 < (a0.size : Int) := of_decide_eq_true (by assumption)
      have hx4 := bt_at a0 x3_1
      replace p4 := eq_true p4
      replace q4 := eq_true q4
      have p18 : 0 ≤ (x3_1 : Int) := of_decide_eq_true (by assumption)
      have q18 : x3_1 < (a0.size : Int) := of_decide_eq_true (by assumption)
      have hx18 := bt_at a0 x3_1
      replace p18 := eq_true p18
      replace q18 := eq_true q18
      have p20 : 0 ≤ (x3_1 : Int) := of_decide_eq_true (by assumption)
      have q20 : x3_1 < (a0.size : Int) := of_decide_eq_true (by assumption)
      have hx20 := bt_at a0 x3_1
      replace p20 := eq_true p20
      replace q20 := eq_true q20
      have p22 : 0 ≤ (x3_1 : Int) := of_decide_eq_true (by assumption)
      have q22 : x3_1 < (a0.size : Int) := of_decide_eq_true (by assumption)
      have hx22 := bt_at a0 x3_1
      replace p22 := eq_true p22
      replace q22 := eq_true q22
      go_wp2
      go_roundg k1
      case measure => have := HK1.out; omega
      case rel => exact ⟨(wrap64 (x3_1 + 1)), (by first | rfl | (simp; done) | (simp [*]; done)), H', ⟨by have := HK1.out; omega⟩, by repeat (first | exact Drawn0.refl _ | apply Drawn0.step)⟩
     rw [if_neg c23] at H
     have c23b0 : ((bt a0 x3_1) == 43) = false := beq_eq_false_iff_ne.mpr c23
     have c23b1 : ((bt a0 x3_1) != 43) = true := bne_iff_ne.mpr c23
     by_cases c25 : (bt a0 x3_1) = 101
     ·rw [if_pos c25] at H
      have c25b0 : ((bt a0 x3_1) == 101) = true := beq_iff_eq.mpr c25
      have c25b1 : ((bt a0 x3_1) != 101) = false := bne_eq_false_iff_eq.mpr c25
      clear c25
      have H' := Aside0.mk H
      clear H
      have p4 : 0 ≤ (x3_1 : Int) := of_decide_eq_true (by assumption)
      have q4 : x3_1 < (a0.size : Int) := of_decide_eq_true (by assumption)
      have hx4 := bt_at a0 x3_1
      replace p4 := eq_true p4
      replace q4 := eq_true q4
      have p18 : 0 ≤ (x3_1 : Int) := of_decide_eq_true (by assumption)
      have q18 : x3_1 < (a0.size : Int) := of_decide_eq_true (by assumption)
      have hx18 := bt_at a0 x3_1
      replace p18 := eq_true p18
      replace q18 := eq_true q18
      have p20 : 0 ≤ (x3_1 : Int) := of_decide_eq_true (by assumption)
      have q20 : x3_1 < (a0.size : Int) := of_decide_eq_true (by assumption)
      have hx20 := bt_at a0 x3_1
      replace p20 := eq_true p20
      replace q20 := eq_true q20
      have p22 : 0 ≤ (x3_1 : Int) := of_decide_eq_true (by assumption)
      have q22 : x3_1 < (a0.size : Int) := of_decide_eq_true (by assumption)
      have hx22 := bt_at a0 x3_1
      replace p22 := eq_true p22
      replace q22 := eq_true q22
      have p24 : 0 ≤ (x3_1 : Int) := of_decide_eq_true (by assumption)
      have q24 : x3_1 < (a0.size : Int) := of_decide_eq_true (by assumption)
      have hx24 := bt_at a0 x3_1
      replace p24 := eq_true p24
      replace q24 := eq_true q24
      go_wp2
      go_roundg k1
      case measure => have := HK1.out; omega
      case rel => exact ⟨(wrap64 (x3_1 + 1)), (by first | rfl | (simp; done) | (simp [*]; done)), H', ⟨by have := HK1.out; omega⟩, by repeat (first | exact Drawn0.refl _ | apply Drawn0.step)⟩
     rw [if_neg c25] at H
     have c25b0 : ((bt a0 x3_1) == 101) = false := beq_eq_false_iff_ne.mpr c25
     have c25b1 : ((bt a0 x3_1) != 101) = true := bne_iff_ne.mpr c25
     by_cases c27 : (bt a0 x3_1) = 69
     ·rw [if_pos c27] at H
      have c27b0 : ((bt a0 x3_1) == 69) = true := beq_iff_eq.mpr c27
      have c27b1 : ((bt a0 x3_1) != 69) = false := bne_eq_false_iff_eq.mpr c27
      clear c27
      have H' := Aside0.mk H
      clear H
      have p4 : 0 ≤ (x3_1 : Int) := of_decide_eq_true (by assumption)
      have q4 : x3_1 < (a0.size : Int) := of_decide_eq_true (by assumption)
      have hx4 := bt_at a0 x3_1
      replace p4 := eq_true p4
      replace q4 := eq_true q4
      have p18 : 0 ≤ (x3_1 : Int) := of_decide_eq_true (by assumption)
      have q18 : x3_1 < (a0.size : Int) := of_decide_eq_true (by assumption)
      have hx18 := bt_at a0 x3_1
      replace p18 := eq_true p18
      replace q18 := eq_true q18
      have p20 : 0 ≤ (x3_1 : Int) := of_decide_eq_true (by assumption)
      have q20 : x3_1 < (a0.size : Int) := of_decide_eq_true (by assumption)
      have hx20 := bt_at a0 x3_1
      replace p20 := eq_true p20
      replace q20 := eq_true q20
      have p22 : 0 ≤ (x3_1 : Int) := of_decide_eq_true (by assumption)
      have q22 : x3_1 < (a0.size : Int) := of_decide_eq_true (by assumption)
      have hx22 := bt_at a0 x3_1
      replace p22 := eq_true p22
      replace q22 := eq_true q22
      have p24 : 0 ≤ (x3_1 : Int) := of_decide_eq_true (by assumption)
      have q24 : x3_1 < (a0.size : Int) := of_decide_eq_true (by assumption)
      have hx24 := bt_at a0 x3_1
      replace p24 := eq_true p24
      replace q24 := eq_true q24
      have p26 : 0 ≤ (x3_1 : Int) := of_decide_eq_true (by assumption)
      have q26 : x3_1 < (a0.size : Int) := of_decide_eq_true (by assumption)
      have hx26 := bt_at a0 x3_1
      replace p26 := eq_true p26
      replace q26 := eq_true q26
      go_wp2
      go_roundg k1
      case measure => have := HK1.out; omega
      case rel => exact ⟨(wrap64 (x3_1 + 1)), (by first | rfl | (simp; done) | (simp [*]; done)), H', ⟨by have := HK1.out; omega⟩, by repeat (first | exact Drawn0.refl _ | apply Drawn0.step)⟩
     rw [if_neg c27] at H
     have c27b0 : ((bt a0 x3_1) == 69) = false := beq_eq_false_iff_ne.mpr c27
     have c27b1 : ((bt a0 x3_1) != 69) = true := bne_iff_ne.mpr c27
     obtain rfl := Option.some.inj H
     have p4 : 0 ≤ (x3_1 : Int) := of_decide_eq_true (by assumption)
     have q4 : x3_1 < (a0.size : Int) := of_decide_eq_true (by assumption)
     have hx4 := bt_at a0 x3_1
     replace p4 := eq_true p4
     replace q4 := eq_true q4
     have p18 : 0 ≤ (x3_1 : Int) := of_decide_eq_true (by assumption)
     have q18 : x3_1 < (a0.size : Int) := of_decide_eq_true (by assumption)
     have hx18 := bt_at a0 x3_1
     replace p18 := eq_true p18
     replace q18 := eq_true q18
     have p20 : 0 ≤ (x3_1 : Int) := of_decide_eq_true (by assumption)
     have q20 : x3_1 < (a0.size : Int) := of_decide_eq_true (by assumption)
     have hx20 := bt_at a0 x3_1
     replace p20 := eq_true p20
     replace q20 := eq_true q20
     have p22 : 0 ≤ (x3_1 : Int) := of_decide_eq_true (by assumption)
     have q22 : x3_1 < (a0.size : Int) := of_decide_eq_true (by assumption)
     have hx22 := bt_at a0 x3_1
     replace p22 := eq_true p22
     replace q22 := eq_true q22
     have p24 : 0 ≤ (x3_1 : Int) := of_decide_eq_true (by assumption)
     have q24 : x3_1 < (a0.size : Int) := of_decide_eq_true (by assumption)
     have hx24 := bt_at a0 x3_1
     replace p24 := eq_true p24
     replace q24 := eq_true q24
     have p26 : 0 ≤ (x3_1 : Int) := of_decide_eq_true (by assumption)
     have q26 : x3_1 < (a0.size : Int) := of_decide_eq_true (by assumption)
     have hx26 := bt_at a0 x3_1
     replace p26 := eq_true p26
     replace q26 := eq_true q26
     go_wp2
     go_ret
     exact ⟨by first | rfl | (simp; done) | (simp [*]; done), by repeat (first | exact Drawn0.refl _ | apply Drawn0.step)⟩
    rw [if_neg c3] at H
    exact absurd H (by simp)
   rw [if_neg c2] at H
   have c2b0 : decide (x3_1 < (a0.size : Int)) = false := decide_eq_false c2
   clear c2
   obtain rfl := Option.some.inj H
   go_wp2
   go_ret
   exact ⟨by first | rfl | (simp; done) | (simp [*]; done), by repeat (first | exact Drawn0.refl _ | apply Drawn0.step)⟩
end Go.Proofs.YtnajijaachgipaaDoor.PT
end
section
namespace Go.Proofs.YtnajijaachgipaaDoor.PT
open Go.RowKit Go.Proofs.YtnajijaachgipaaDoorW.PrintWords Go.Proofs.YtnajijaachgipaaDoorW.PrintLast Go.Proofs.YtnajijaachgipaaDoorW.PrintMore
attribute [local go_sem] max2_int min2_int max_two min_two max_three min_three max_four min_four   -- for this text's walks alone
set_option linter.unusedVariables false
set_option linter.unusedSimpArgs false
/-! ### spec_folds: function 68 -/
def spec_folds.l0 : Nat → ByteArray → ByteArray → Int → Option (Bool)
 | 0, _, _, _ => none
 | k + 1, x0, x1, x5 => if x5 < (x1.size : Int) then (if 0 ≤ x5 then (if x5 < (x0.size : Int) then (if (Go.bits .or .u8 (bt x0 x5) 32) = (bt x1 x5) then (spec_folds.l0 k x0 x1 (wrap64 (x5 + 1))) else (some false)) else (none)) else (none)) else (some true)
def spec_folds.f (k : Nat) (a0 : ByteArray) (a1 : ByteArray) : Option (Bool) := spec_folds.l0 k a0 a1 0
theorem spec_folds.mono_l : ∀ k, (∀ y0 y1 y2, LeO (spec_folds.l0 k y0 y1 y2) (spec_folds.l0 (k + 1) y0 y1 y2))
 | 0 => fun _ _ _ r h => by simp [spec_folds.l0] at h
 | k + 1 => by
  have ih0 := spec_folds.mono_l k
  ·intro y0 y1 y2
   unfold spec_folds.l0
   repeat' first
   | (with_reducible exact ih0 _ _ _)
   | (with_reducible exact LeO.refl _)
   | (with_reducible exact LeO.none _)
   | (with_reducible refine LeO.ite ?_ ?_)
   | (with_reducible refine LeO.bind ?_ (fun _ => ?_))
   | exact ih0 _ _ _
   | exact LeO.none _
   | refine LeO.ite ?_ ?_
   | refine LeO.bind ?_ (fun _ => ?_)
theorem spec_folds.mono : ∀ a0 a1 k, LeO (spec_folds.f k a0 a1) (spec_folds.f (k + 1) a0 a1) := by
 intro a0 a1 k
 have ih0 := spec_folds.mono_l k
 unfold spec_folds.f
 repeat' first
   | (with_reducible exact ih0 _ _ _)
   | (with_reducible exact LeO.refl _)
   | (with_reducible exact LeO.none _)
   | (with_reducible refine LeO.ite ?_ ?_)
   | (with_reducible refine LeO.bind ?_ (fun _ => ?_))
   | exact ih0 _ _ _
   | exact LeO.none _
   | refine LeO.ite ?_ ?_
   | refine LeO.bind ?_ (fun _ => ?_)
set_option maxHeartbeats 8000000 in
set_option maxRecDepth 100000 in
theorem spec_folds.calls (k : Nat) (a0 : ByteArray) (a1 : ByteArray) (r : Bool) (w : World) (h : spec_folds.f k a0 a1 = some r) :
  Calls Tryd.prog 68 #[.string a0, .string a1] w fun e w' => e = .returned (.bool r) ∧ Drawn0 w w' := by
 have H : (spec_folds.l0 k a0 a1 0) = some r := h
 clear h
 have H' := Aside0.mk H
 clear H
 go_enter Tryd.func68, Tryd.ntmps68
 go_wp2
 repeat (go_quiet (fail); try go_wp2)
 try simp only [Act.put, List.setIfInBounds_toArray, List.set_cons_succ, List.set_cons_zero]
 go_loopg [5] k (fun kq v5 w' => ∃ (x5_1 : Int), v5 = .int .i64 x5_1 ∧ Aside0 (spec_folds.l0 kq a0 a1 x5_1 = some r) ∧ Aside0 (kq ≤ k) ∧ Drawn0 w w')
 case atStart => exact ⟨(0), (by first | rfl | (simp; done) | (simp [*]; done)), H', ⟨Nat.le_refl _⟩, by repeat (first | exact Drawn0.refl _ | apply Drawn0.step)⟩
 case round =>
  clear H'
  try clear p2
  obtain ⟨x5_1, rfl, HA, HK1, ⟨m1, rfl⟩⟩ := hrel
  cases gk with
  | zero => exact absurd HA.out (by simp [spec_folds.l0])
  | succ k1 =>
   have H := HA.out
   clear HA
   simp only [spec_folds.l0] at H
   by_cases c3 : x5_1 < (a1.size : Int)
   ·rw [if_pos c3] at H
    have c3b0 : decide (x5_1 < (a1.size : Int)) = true := decide_eq_true c3
    clear c3
    by_cases c4 : 0 ≤ x5_1
    ·rw [if_pos c4] at H
     have c4b0 : decide (0 ≤ x5_1) = true := decide_eq_true c4
     clear c4
     by_cases c5 : x5_1 < (a0.size : Int)
     ·rw [if_pos c5] at H
      have c5b0 : decide (x5_1 < (a0.size : Int)) = true := decide_eq_true c5
      clear c5
      by_cases c8 : (Go.bits .or .u8 (bt a0 x5_1) 32) = (bt a1 x5_1)
      ·rw [if_pos c8] at H
       have c8b0 : ((Go.bits .or .u8 (bt a0 x5_1) 32) == (bt a1 x5_1)) = true := beq_iff_eq.mpr c8
       have c8b1 : ((Go.bits .or .u8 (bt a0 x5_1) 32) != (bt a1 x5_1)) = false := bne_eq_false_iff_eq.mpr c8
       clear c8
       have H' := Aside0.mk H
       clear H
       have p6 : 0 ≤ (x5_1 : Int) := of_decide_eq_true (by assumption)
       have q6 : x5_1 < (a0.size : Int) := of_decide_eq_true (by assumption)
       have hx6 := bt_at a0 x5_1
       replace p6 := eq_true p6
       replace q6 := eq_true q6
       have p7 : 0 ≤ (x5_1 : Int) := of_decide_eq_true (by assumption)
       have q7 : x5_1 < (a1.size : Int) := of_decide_eq_true (by assumption)
       have hx7 := bt_at a1 x5_1
       replace p7 := eq_true p7
       replace q7 := eq_true q7
       go_wp2
       repeat (go_quiet (fail); try go_wp2)
       go_roundg k1
       case measure => have := HK1.out; omega
       case rel => exact ⟨(wrap64 (x5_1 + 1)), (by first | rfl | (simp; done) | (simp [*]; done)), H', ⟨by have := HK1.out; omega⟩, by repeat (first | exact Drawn0.refl _ | apply Drawn0.step)⟩
      rw [if_neg c8] at H
      have c8b0 : ((Go.bits .or .u8 (bt a0 x5_1) 32) == (bt a1 x5_1)) = false := beq_eq_false_iff_ne.mpr c8
      have c8b1 : ((Go.bits .or .u8 (bt a0 x5_1) 32) != (bt a1 x5_1)) = true := bne_iff_ne.mpr c8
      obtain rfl := Option.some.inj H
      have p6 : 0 ≤ (x5_1 : Int) := of_decide_eq_true (by assumption)
      have q6 : x5_1 < (a0.size : Int) := of_decide_eq_true (by assumption)
      have hx6 := bt_at a0 x5_1
      replace p6 := eq_true p6
      replace q6 := eq_true q6
      have p7 : 0 ≤ (x5_1 : Int) := of_decide_eq_true (by assumption)
      have q7 : x5_1 < (a1.size : Int) := of_decide_eq_true (by assumption)
      have hx7 := bt_at a1 x5_1
      replace p7 := eq_true p7
      replace q7 := eq_true q7
      go_wp2
      repeat (go_quiet (fail); try go_wp2)
      go_ret
      exact ⟨by first | rfl | (simp; done) | (simp [*]; done), by repeat (first | exact Drawn0.refl _ | apply Drawn0.step)⟩
     rw [if_neg c5] at H
     exact absurd H (by simp)
    rw [if_neg c4] at H
    exact absurd H (by simp)
   rw [if_neg c3] at H
   have c3b0 : decide (x5_1 < (a1.size : Int)) = false := decide_eq_false c3
   clear c3
   obtain rfl := Option.some.inj H
   go_wp2
   repeat (go_quiet (fail); try go_wp2)
   go_ret
   exact ⟨by first | rfl | (simp; done) | (simp [*]; done), by repeat (first | exact Drawn0.refl _ | apply Drawn0.step)⟩
end Go.Proofs.YtnajijaachgipaaDoor.PT
end
