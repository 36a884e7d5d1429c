-- Written by a program of this session out of the translation (a changed copy of the kit's print); Lean checks it.
import Derived.Test.YtdndddembndnhaaPAx0
import Derived.Test.YtdndddembndnhaaPAx33
namespace Go.Proofs.Ytdndddembndnhaa.PA
open Go.RowKit Go.Proofs.YtdndddembndnhaaW.PrintWords Go.Proofs.YtdndddembndnhaaW.PrintLast Go.Proofs.YtdndddembndnhaaW.PrintMore
attribute [local go_sem] max2_int min2_int max_two min_two max_three min_three max_four min_four   -- for this text's walks alone
set_option linter.unusedVariables false
set_option linter.unusedSimpArgs false

/-! ### gjson_DoorName: function 23 -/
def gjson_DoorName.f (k : Nat) (a0 : ByteArray) : Option (ByteArray) := (gjson_nameOfLast.f k a0).bind fun t367 => (some t367)
theorem gjson_DoorName.mono : ∀ a0 k, LeO (gjson_DoorName.f k a0) (gjson_DoorName.f (k + 1) a0) := by
  intro a0 k
  unfold gjson_DoorName.f
  repeat' first
      | (with_reducible exact gjson_nameOfLast.mono _ _)
      | (with_reducible exact LeO.refl _)
      | (with_reducible exact LeO.none _)
      | (with_reducible refine LeO.ite ?_ ?_)
      | (with_reducible refine LeO.bind ?_ (fun _ => ?_))
      | exact gjson_nameOfLast.mono _ _
      | exact LeO.none _
      | refine LeO.ite ?_ ?_
      | refine LeO.bind ?_ (fun _ => ?_)
set_option maxHeartbeats 8000000 in
set_option maxRecDepth 100000 in
theorem gjson_DoorName.calls (k : Nat) (a0 : ByteArray) (r : ByteArray) (w : World) (h : gjson_DoorName.f k a0 = some r) :
    Calls Try.prog 23 #[.string a0] w fun e w' => e = .returned (.string r) ∧ Drawn0 w w' := by
  have H : ((gjson_nameOfLast.f k a0).bind fun t367 => (some t367)) = some r := h
  clear h
  replace H := Option.bind_eq_some_iff.mp H
  obtain ⟨t367, A20, H⟩ := H
  replace H : (some t367) = some r := H
  have A2 := Aside0.mk A20
  clear A20
  obtain rfl := Option.some.inj H
  go_enter Try.func23, Try.ntmps23
  go_wp2_with (first | ((with_reducible refine gate_callee (f := 36) rfl ?_); refine goesL_ (some 4) rfl rfl Try.func36 (by kernel_rfl) rfl #[.string a0] rfl (by (try simp only [List.map_toArray, List.map_cons, List.map_nil]); first | done | rfl | (simp only [List.length_drop, List.length_take]; rfl)) ?_; (with_reducible refine (gjson_nameOfLast.calls k a0 t367 _ A2.out).mono ?_); rintro e w' ⟨rfl, ⟨nd, rfl⟩⟩; refine ⟨_, rfl, ?_⟩))
  go_ret
  exact ⟨by first | rfl | (simp; done) | (simp [*]; done), by repeat (first | exact Drawn0.refl _ | apply Drawn0.step)⟩

end Go.Proofs.Ytdndddembndnhaa.PA
