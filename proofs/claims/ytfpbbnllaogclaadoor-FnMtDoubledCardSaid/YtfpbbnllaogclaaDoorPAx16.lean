-- Written by a program of this session out of the translation (a changed copy of the kit's print); Lean checks it.
import Derived.Test.YtfpbbnllaogclaaDoorPAx0
import Derived.Test.YtfpbbnllaogclaaDoorPAx1
import Derived.Test.YtfpbbnllaogclaaDoorPAx3
import Derived.Test.YtfpbbnllaogclaaDoorPAx15
namespace Go.Proofs.YtfpbbnllaogclaaDoor.PA
open Go.RowKit Go.Proofs.YtfpbbnllaogclaaDoorW.PrintWords Go.Proofs.YtfpbbnllaogclaaDoorW.PrintLast Go.Proofs.YtfpbbnllaogclaaDoorW.PrintMore
attribute [local go_sem] max2_int min2_int max_two min_two max_three min_three max_four min_four   -- for this text's walks alone
set_option linter.unusedVariables false
set_option linter.unusedSimpArgs false

/-! ### match_Match: function 29 -/
def match_Match.f (k : Nat) (a0 : ByteArray) (a1 : ByteArray) : Option (Bool) := (match_match0.f k a0 a1 false).bind fun t137 => (some t137)
theorem match_Match.mono : ∀ a0 a1 k, LeO (match_Match.f k a0 a1) (match_Match.f (k + 1) a0 a1) := by
  intro a0 a1 k
  unfold match_Match.f
  repeat' first
      | (with_reducible exact match_match0.mono _ _ _ _)
      | (with_reducible exact LeO.refl _)
      | (with_reducible exact LeO.none _)
      | (with_reducible refine LeO.ite ?_ ?_)
      | (with_reducible refine LeO.bind ?_ (fun _ => ?_))
      | exact match_match0.mono _ _ _ _
      | exact LeO.none _
      | refine LeO.ite ?_ ?_
      | refine LeO.bind ?_ (fun _ => ?_)
set_option maxHeartbeats 8000000 in
set_option maxRecDepth 100000 in
theorem match_Match.calls (k : Nat) (a0 : ByteArray) (a1 : ByteArray) (r : Bool) (w : World) (hT4 : Kd.C (Kd.int .u8) w (some ⟨4, 0, none⟩) tabG4.length tabG4) (hT5 : Kd.C k159 w (some ⟨5, 0, none⟩) tabG5.length tabG5) (h : match_Match.f k a0 a1 = some r) :
    Calls Tryd.prog 29 #[.string a0, .string a1] w fun e w' => e = .returned (.bool r) ∧ Below w.heap.size w w' := by
  have HRG4 := Aside0.mk hT4
  clear hT4
  have HRG5 := Aside0.mk hT5
  clear hT5
  have HB := Aside0.mk (Below.refl w.heap.size w)
  have H : ((match_match0.f k a0 a1 false).bind fun t137 => (some t137)) = some r := h
  clear h
  replace H := Option.bind_eq_some_iff.mp H
  obtain ⟨t137, A30, H⟩ := H
  replace H : (some t137) = some r := H
  have A3 := Aside0.mk A30
  clear A30
  as_aux_lemma =>
    obtain rfl := Option.some.inj H
    go_enter Tryd.func29, Tryd.ntmps29
    go_wp2_with (first | ((with_reducible refine gate_callee (f := 51) rfl ?_); refine goesL_ (some 7) rfl rfl Tryd.func51 (by kernel_rfl) rfl #[.string a0, .string a1, .bool false] rfl (by (try simp only [List.map_toArray, List.map_cons, List.map_nil]); first | done | rfl | (simp only [List.length_drop, List.length_take]; rfl)) ?_; (with_reducible refine (match_match0.calls k a0 a1 false t137 _ ?side1 ?side2 A3.out).mono ?_); (case side1 => repeat (first | exact Kd.C_below HRG4.out (by repeat (first | (with_reducible first | exact HB.out | apply below_alloc | apply pw_below_drewN | apply below_drew1) | exact HB.out)) | exact HRG4.out | (with_reducible refine Kd.C_alloc ?_ _) | (with_reducible refine Kd.C_drewN ?_ _) | (with_reducible refine Kd.C_drew ?_))); (case side2 => repeat (first | exact Kd.C_below HRG5.out (by repeat (first | (with_reducible first | exact HB.out | apply below_alloc | apply pw_below_drewN | apply below_drew1) | exact HB.out)) | exact HRG5.out | (with_reducible refine Kd.C_alloc ?_ _) | (with_reducible refine Kd.C_drewN ?_ _) | (with_reducible refine Kd.C_drew ?_))); rintro e w4 ⟨rfl, hb⟩; refine ⟨_, rfl, ?_⟩; have n0_ := Aside0.mk (below_step (by repeat (first | (with_reducible first | exact HB.out | apply below_alloc | apply pw_below_drewN | apply below_drew1) | exact HB.out)) hb); clear HB; have HB := n0_; clear n0_; (try clear hb); (try clear hb2); (try clear hk); (try clear hi)))
    go_ret
    exact ⟨by first | rfl | (simp [errW_none, errW_some] <;> rfl) | (simp [*, errW_none, errW_some] <;> rfl), by repeat (first | (with_reducible first | exact HB.out | apply below_alloc | apply pw_below_drewN | apply below_drew1) | exact HB.out)⟩

end Go.Proofs.YtfpbbnllaogclaaDoor.PA
