-- Written by a program of this session out of the translation (a changed copy of the kit's print); Lean checks it.
import Derived.Test.YtfpbbnllaogclaaDoorPGx0
import Derived.Test.YtfpbbnllaogclaaDoorPGx1
import Derived.Test.YtfpbbnllaogclaaDoorPGx2
import Derived.Test.YtfpbbnllaogclaaDoorPGx14
namespace Go.Proofs.YtfpbbnllaogclaaDoor.PG
open Go.RowKit Go.Proofs.YtfpbbnllaogclaaDoorW.PrintWords Go.Proofs.YtfpbbnllaogclaaDoorW.PrintLast Go.Proofs.YtfpbbnllaogclaaDoorW.PrintMore
attribute [local go_sem] max2_int min2_int max_two min_two max_three min_three max_four min_four   -- for this text's walks alone
set_option linter.unusedVariables false
set_option linter.unusedSimpArgs false

/-! ### fastjson_DoorCheckKey: function 50 -/
def fastjson_DoorCheckKey.f (k : Nat) (a0 : ByteArray) : Option (ByteArray × Option Int) := (fastjson_validateKey.f k a0).bind fun bt137 => (some (bt137.2.1, bt137.2.2))
theorem fastjson_DoorCheckKey.mono : ∀ a0 k, LeO (fastjson_DoorCheckKey.f k a0) (fastjson_DoorCheckKey.f (k + 1) a0) := by
  intro a0 k
  unfold fastjson_DoorCheckKey.f
  repeat' first
      | (with_reducible exact fastjson_validateKey.mono _ _)
      | (with_reducible exact LeO.refl _)
      | (with_reducible exact LeO.none _)
      | (with_reducible refine LeO.ite ?_ ?_)
      | (with_reducible refine LeO.bind ?_ (fun _ => ?_))
      | exact fastjson_validateKey.mono _ _
      | exact LeO.none _
      | refine LeO.ite ?_ ?_
      | refine LeO.bind ?_ (fun _ => ?_)
set_option maxHeartbeats 8000000 in
set_option maxRecDepth 100000 in
theorem fastjson_DoorCheckKey.calls (k : Nat) (a0 : ByteArray) (r1 : ByteArray) (r2 : Option Int) (w : World) (hT6 : Kd.C Kd.errk w (some ⟨6, 0, none⟩) tabG6.length tabG6) (hT7 : Kd.C Kd.errk w (some ⟨7, 0, none⟩) tabG7.length tabG7) (h : fastjson_DoorCheckKey.f k a0 = some (r1, r2)) :
    Calls Tryd.prog 50 #[.string a0] w fun e w' => ∃ (et1_ : Nat) (ep1_ : Value), e = .returned (.tuple #[.string r1, errX et1_ ep1_ r2]) ∧ Below w.heap.size w w' := by
  have HRG6 := Aside0.mk hT6
  clear hT6
  have HRG7 := Aside0.mk hT7
  clear hT7
  have HB := Aside0.mk (Below.refl w.heap.size w)
  have H : ((fastjson_validateKey.f k a0).bind fun bt137 => (some (bt137.2.1, bt137.2.2))) = some (r1, r2) := h
  clear h
  replace H := Option.bind_eq_some_iff.mp H
  obtain ⟨⟨t137, t138, t139⟩, A20, H⟩ := H
  replace H : (some (t138, t139)) = some (r1, r2) := H
  have A2 := Aside0.mk A20
  clear A20
  simp only [Option.some.injEq, Prod.mk.injEq] at H
  obtain ⟨rfl, rfl⟩ := H
  go_enter Tryd.func50, Tryd.ntmps50
  go_wp2_with (first | ((with_reducible refine gate_callee (f := 67) rfl ?_); refine goesL_ (some 9) rfl rfl Tryd.func67 (by kernel_rfl) rfl #[.string a0] rfl (by (try simp only [List.map_toArray, List.map_cons, List.map_nil]); first | done | rfl | (simp only [List.length_drop, List.length_take]; rfl)) ?_; (with_reducible refine (fastjson_validateKey.calls k a0 t137 t138 t139 _ ?side1 ?side2 A2.out).mono ?_); (case side1 => repeat (first | exact Kd.C_below HRG6.out (by repeat (first | (with_reducible first | exact HB.out | apply below_alloc | apply pw_below_drewN | apply below_drew1) | exact HB.out)) | exact HRG6.out | (with_reducible refine Kd.C_alloc ?_ _) | (with_reducible refine Kd.C_drewN ?_ _) | (with_reducible refine Kd.C_drew ?_))); (case side2 => repeat (first | exact Kd.C_below HRG7.out (by repeat (first | (with_reducible first | exact HB.out | apply below_alloc | apply pw_below_drewN | apply below_drew1) | exact HB.out)) | exact HRG7.out | (with_reducible refine Kd.C_alloc ?_ _) | (with_reducible refine Kd.C_drewN ?_ _) | (with_reducible refine Kd.C_drew ?_))); rintro e w3 ⟨et_A2_2, ep_A2_2, rfl, hb⟩; refine ⟨_, rfl, ?_⟩; have n0_ := Aside0.mk (below_step (by repeat (first | (with_reducible first | exact HB.out | apply below_alloc | apply pw_below_drewN | apply below_drew1) | exact HB.out)) hb); clear HB; have HB := n0_; clear n0_; (try clear hb); (try clear hb2); (try clear hk); (try clear hi); (try simp only [errW_none, errW_some, errX_none, errX_some])))
  go_ret2
  exact ⟨et_A2_2, ep_A2_2, by first | rfl | (simp [errW_none, errW_some] <;> rfl) | (simp [*, errW_none, errW_some] <;> rfl), by repeat (first | (with_reducible first | exact HB.out | apply below_alloc | apply pw_below_drewN | apply below_drew1) | exact HB.out)⟩

end Go.Proofs.YtfpbbnllaogclaaDoor.PG
