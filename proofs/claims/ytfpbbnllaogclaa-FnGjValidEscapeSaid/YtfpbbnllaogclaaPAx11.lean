-- Written by a program of this session out of the translation (a changed copy of the kit's print); Lean checks it.
import Derived.Test.YtfpbbnllaogclaaPAx0
namespace Go.Proofs.Ytfpbbnllaogclaa.PA
open Go.RowKit Go.Proofs.YtfpbbnllaogclaaW.PrintWords Go.Proofs.YtfpbbnllaogclaaW.PrintLast Go.Proofs.YtfpbbnllaogclaaW.PrintMore
attribute [local go_sem] max2_int min2_int max_two min_two max_three min_three max_four min_four   -- for this text's walks alone
set_option linter.unusedVariables false
set_option linter.unusedSimpArgs false

/-! ### gjson_stringBytes: function 7 -/
def gjson_stringBytes.f (a0 : ByteArray) : Option (List Int) := if a0.size ≤ 9223372036854775807 then (some (bytesOf a0)) else (none)
set_option maxHeartbeats 8000000 in
set_option maxRecDepth 100000 in
theorem gjson_stringBytes.calls (a0 : ByteArray) (r : List Int) (w : World) (h : gjson_stringBytes.f a0 = some r) :
    Calls Try.prog 7 #[.string a0] w fun e w' => ∃ v0_ : Value, e = .returned (v0_) ∧ Kd.V (Kd.int .u8) 5 w' w.heap.size (fun k_ => (w.heap.size ≤ k_)) v0_ r ∧ Below w.heap.size w w' := by
  have HB := Aside0.mk (Below.refl w.heap.size w)
  have H : (if a0.size ≤ 9223372036854775807 then (some (bytesOf a0)) else (none)) = some r := h
  clear h
  by_cases c2 : a0.size ≤ 9223372036854775807
  · rw [if_pos c2] at H
    have c2b0 := eq_true c2
    have c2b1 : decide (a0.size ≤ 9223372036854775807) = true := decide_eq_true c2
    try have c2b2 : (9223372036854775807 < a0.size) = False := eq_false (Nat.not_lt.2 c2)
    clear c2
    obtain ⟨y126, hy126⟩ : ∃ y_ : List Int, y_ = (bytesOf a0) := ⟨_, rfl⟩
    replace H : (some y126) = some r := by first | (rw [hy126]; with_reducible exact H) | (have H2_ := (Option.bind_some _ _).symm.trans H; rw [hy126]; with_reducible exact H2_) | (have H2_ := (Option.bind_some _ _).symm.trans H; with_reducible exact H2_) | with_reducible exact H | (rw [hy126]; exact H) | exact H
    have Ny126 := Aside0.mk hy126
    clear hy126
    obtain rfl := Option.some.inj H
    go_enter Try.func7, Try.ntmps7
    go_wp2_with (first | ((with_reducible refine gate_dst (N := 4) rfl ?_); refine M_bytes _ rfl (N := 4) rfl 9 23 5 _ a0 rfl rfl Try.underlying9 Try.underlying23 Try.underlying5 (of_decide_eq_true (by first | (with_reducible assumption) | assumption)) (Below.refl _ _) (Nat.le_refl _) ?_; intro v127 w3 ho4 hb hg_ hnew_; clear hg_ hnew_; (first | rw [← Ny126.out] at ho4 | (simp only [Int.reduceToNat] at ho4; rw [← Ny126.out] at ho4)); have n0_ := Aside0.mk (Kd.V_lower (Kd.V_mono (ok' := fun k_ => (w.heap.size ≤ k_)) ho4 (fun k_ hk_ => (Nat.le_trans (below_size (by repeat (first | (with_reducible first | exact HB.out | apply below_alloc | apply pw_below_drewN | apply below_drew1) | exact HB.out))) hk_))) (below_size (by repeat (first | (with_reducible first | exact HB.out | apply below_alloc | apply pw_below_drewN | apply below_drew1) | exact HB.out)))); have n1_ := Aside0.mk (below_step (by repeat (first | (with_reducible first | exact HB.out | apply below_alloc | apply pw_below_drewN | apply below_drew1) | exact HB.out)) hb); clear HB; have HO128 := n0_; have HB := n1_; clear n0_ n1_; clear hb ho4))
    go_ret
    exact ⟨_, by first | rfl | (simp [errW_none, errW_some] <;> rfl) | (simp [*, errW_none, errW_some] <;> rfl), by (with_reducible repeat (first | apply Kd.V_alloc | apply Kd.V_drewN | apply Kd.V_drew)); exact HO128.out, by repeat (first | (with_reducible first | exact HB.out | apply below_alloc | apply pw_below_drewN | apply below_drew1) | exact HB.out)⟩
  · rw [if_neg c2] at H
    exact absurd H (by simp)

end Go.Proofs.Ytfpbbnllaogclaa.PA
