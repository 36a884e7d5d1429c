-- Written by a program of this session out of the translation (a changed copy of the kit's print); Lean checks it.
import Derived.Test.YtdndddembndnhaaPAx0
import Derived.Test.YtdndddembndnhaaPAx18
namespace Go.Proofs.Ytdndddembndnhaa.PA
open Go.RowKit Go.Proofs.YtdndddembndnhaaW.PrintWords Go.Proofs.YtdndddembndnhaaW.PrintLast Go.Proofs.YtdndddembndnhaaW.PrintMore
attribute [local go_sem] max2_int min2_int max_two min_two max_three min_three max_four min_four   -- for this text's walks alone
set_option linter.unusedVariables false
set_option linter.unusedSimpArgs false

/-! ### pretty_Ugly: function 24, by hand -/
def pretty_Ugly.f (k : Nat) (l0 : List Int) : Option (List Int) := if l0.length ≤ 140737488351232 then pretty_ugly.f k [] l0 else none
theorem pretty_Ugly.mono : ∀ a0 k, LeO (pretty_Ugly.f k a0) (pretty_Ugly.f (k + 1) a0) := by
  intro a0 k
  unfold pretty_Ugly.f
  exact LeO.ite (pretty_ugly.mono _ _ _) (LeO.refl _)
set_option maxHeartbeats 400000 in
theorem pretty_Ugly.calls (k : Nat) (A0 : Option Addr) (c0 : Nat) (l0 : List Int) (r : List Int) (w : World) (hr0 : Kd.C (Kd.int .u8) w A0 l0.length l0) (hc0 : l0.length ≤ c0) (h : pretty_Ugly.f k l0 = some r) :
    Calls Try.prog 24 #[.slice A0 l0.length c0] w fun e w' => ∃ v0_ : Value, e = .returned (v0_) ∧ Kd.R (Kd.int .u8) 5 w' w.heap.size (fun _ => True) v0_ r ∧ Below w.heap.size w w' := by
  unfold pretty_Ugly.f at h
  by_cases hs : l0.length ≤ 140737488351232
  · rw [if_pos hs] at h
    have H := Aside0.mk h
    have HS := Aside0.mk hs
    have HC := Aside0.mk hc0
    have HR := Aside0.mk hr0
    clear h hs hc0 hr0
    obtain ⟨i0, hi, hz0, hz1, hz2⟩ := info_parts info5
    obtain ⟨w1, hrun, hown, hg⟩ := run_make_own (P := Try.prog) w w.heap.size 42 5 i0 (.int .u8 0) 1 Try.underlying42 hi hz0 hz1 .i64 .i64 l0.length (by rw [hz2]; have := HS.out; omega) (by have := HS.out; unfold maxLen; omega) (Nat.le_refl _)
    clear hi hz0 hz1 hz2
    have HO := Aside0.mk hown
    have HG := Aside0.mk hg
    clear hown hg
    go_enter Try.func24, Try.ntmps24
    go_wp2_with fail
    have hb1 : Below w.heap.size w w1 := (Below.refl w.heap.size w).grown HG.out (Nat.le_refl _) (fun k h => by cases h)
    have ho : Kd.R (Kd.int .u8) 5 w1 w.heap.size (fun k_ => w.heap.size ≤ k_) (.slice (some ⟨w.heap.size, 0, none⟩) 0 l0.length) [] := Kd.R_of_own (enc := Value.int .u8) (h1 := fun _ => rfl) HO.out (fun k hk => by simp [Value.ownBlock] at hk; omega)
    refine (pretty_ugly.calls k (fun k_ => w.heap.size ≤ k_) _ [] A0 c0 l0 r w w1 hb1 ho (Kd.C_kept_came (Kd.heap_int .u8) HR.out hb1 (fun _ h => h)) HC.out H.out).mono ?_
    rintro e w' ⟨v0, rfl, ho2, hb, hk⟩
    have HB := Aside0.mk hb
    have HO2 := Aside0.mk (Kd.R_mono ho2 (fun _ _ => trivial : ∀ k_, _ → (fun _ => True) k_))
    clear hb hb1 ho ho2 hk hrun
    go_wp2
    go_ret
    exact ⟨_, rfl, HO2.out, HB.out⟩
  · rw [if_neg hs] at h; cases h

end Go.Proofs.Ytdndddembndnhaa.PA
