-- Written by a program of this session out of the translation (a changed copy of the kit's print); Lean checks it.
import Derived.Test.YtdndddembndnhaaDoorPAx0
import Derived.Test.YtdndddembndnhaaDoorPAx1
import Derived.Test.YtdndddembndnhaaDoorPAx2
import Derived.Test.YtdndddembndnhaaDoorPAx4
import Derived.Test.YtdndddembndnhaaDoorPAx13
namespace Go.Proofs.YtdndddembndnhaaDoor.PA
open Go.RowKit Go.Proofs.YtdndddembndnhaaDoorW.PrintWords Go.Proofs.YtdndddembndnhaaDoorW.PrintLast Go.Proofs.YtdndddembndnhaaDoorW.PrintMore
attribute [local go_sem] max2_int min2_int max_two min_two max_three min_three max_four min_four   -- for this text's walks alone
set_option linter.unusedVariables false
set_option linter.unusedSimpArgs false

/-! ### impl_GjQuote: function 5 -/
def impl_GjQuote.f (k : Nat) (a0 : ByteArray) : Option (ByteArray) := (gjson_AppendJSONString.f k ([] : List Int) a0).bind fun t212 => (some (strOfNums t212))
theorem impl_GjQuote.mono : ∀ a0 k, LeO (impl_GjQuote.f k a0) (impl_GjQuote.f (k + 1) a0) := by
  intro a0 k
  unfold impl_GjQuote.f
  repeat' first
      | (with_reducible exact gjson_AppendJSONString.mono _ _ _)
      | (with_reducible exact LeO.refl _)
      | (with_reducible exact LeO.none _)
      | (with_reducible refine LeO.ite ?_ ?_)
      | (with_reducible refine LeO.bind ?_ (fun _ => ?_))
      | exact gjson_AppendJSONString.mono _ _ _
      | exact LeO.none _
      | refine LeO.ite ?_ ?_
      | refine LeO.bind ?_ (fun _ => ?_)
set_option maxHeartbeats 8000000 in
set_option maxRecDepth 100000 in
theorem impl_GjQuote.calls (k : Nat) (a0 : ByteArray) (r : ByteArray) (w : World) (hT0 : Kd.C (Kd.int .u8) w (some ⟨0, 0, none⟩) tabG0.length tabG0) (hT1 : Kd.C (Kd.int .u8) w (some ⟨1, 0, none⟩) tabG1.length tabG1) (hT2 : Kd.C k39 w (some ⟨2, 0, none⟩) tabG2.length tabG2) (h : impl_GjQuote.f k a0 = some r) :
    Calls Tryd.prog 5 #[.string a0] w fun e w' => e = .returned (.string r) ∧ Below w.heap.size w w' := by
  have HRG0 := Aside0.mk hT0
  clear hT0
  have HRG1 := Aside0.mk hT1
  clear hT1
  have HRG2 := Aside0.mk hT2
  clear hT2
  have HB := Aside0.mk (Below.refl w.heap.size w)
  have H : ((gjson_AppendJSONString.f k ([] : List Int) a0).bind fun t212 => (some (strOfNums t212))) = some r := h
  clear h
  replace H := Option.bind_eq_some_iff.mp H
  obtain ⟨t212, A20, H⟩ := H
  replace H : (some (strOfNums t212)) = some r := H
  have A2 := Aside0.mk A20
  clear A20
  as_aux_lemma =>
    obtain rfl := Option.some.inj H
    go_enter Tryd.func5, Tryd.ntmps5
    go_wp2_with (first | ((with_reducible refine gate_callee (f := 7) rfl ?_); refine goesL_ (some 4) rfl rfl Tryd.func7 (by kernel_rfl) rfl #[.slice none 0 0, .string a0] rfl (by (try simp only [List.map_toArray, List.map_cons, List.map_nil]); first | done | rfl | (simp only [List.length_drop, List.length_take]; rfl)) ?_; (refine (gjson_AppendJSONString.calls k (fun k_ => some k_ = (.slice none 0 0 : Value).ownBlock) (.slice none 0 0) ([] : List Int) a0 t212 w _ ?side1 ?side2 ?side3 ?side4 ?side5 A2.out).mono ?_); (case side1 => repeat (first | (with_reducible first | exact HB.out | apply below_alloc | apply pw_below_drewN | apply below_drew1) | exact HB.out)); (case side2 => exact Kd.R_nil _ _ _ _ _); (case side3 => exact HRG0.out); (case side4 => exact HRG1.out); (case side5 => exact HRG2.out); rintro e w3 ⟨v213, rfl, ho0, hb, hkp⟩; refine ⟨_, rfl, ?_⟩; have n0_ := Aside0.mk (Kd.R_mono (ok' := fun k_ => True) ho0 (fun k_ hk_ => trivial)); have n1_ := Aside0.mk (hb); clear HB; have HO214 := n0_; have HB := n1_; clear n0_ n1_; (try clear hb); (try clear hkp); (try clear ho0); have hcv4 := own_string (P := Tryd.prog) Tryd.underlying27 Tryd.underlying5 Tryd.underlying9 (Kd.own_of_R HO214.out)))
    go_ret
    exact ⟨by first | rfl | (simp [errW_none, errW_some] <;> rfl) | (simp [*, errW_none, errW_some] <;> rfl), by repeat (first | (with_reducible first | exact HB.out | apply below_alloc | apply pw_below_drewN | apply below_drew1) | exact HB.out)⟩

end Go.Proofs.YtdndddembndnhaaDoor.PA
