-- Written by a program of this session out of the translation (a changed copy of the kit's print); Lean checks it.
import Derived.Test.YtdndddembndnhaaPAx0
import Derived.Test.YtdndddembndnhaaPAx19
namespace Go.Proofs.Ytdndddembndnhaa.PA
open Go.RowKit Go.Proofs.YtdndddembndnhaaW.PrintWords Go.Proofs.YtdndddembndnhaaW.PrintLast Go.Proofs.YtdndddembndnhaaW.PrintMore
attribute [local go_sem] max2_int min2_int max_two min_two max_three min_three max_four min_four   -- for this text's walks alone
set_option linter.unusedVariables false
set_option linter.unusedSimpArgs false

/-! ### impl_PrUgly: function 13, by hand -/
def impl_PrUgly.f (k : Nat) (a0 : ByteArray) : Option (ByteArray) := if a0.size ≤ 140737488351232 then (pretty_Ugly.f k (bytesOf a0)).bind fun r => some (strOfNums r) else none
theorem impl_PrUgly.mono : ∀ a0 k, LeO (impl_PrUgly.f k a0) (impl_PrUgly.f (k + 1) a0) := by
  intro a0 k
  unfold impl_PrUgly.f
  exact LeO.ite (LeO.bind (pretty_Ugly.mono _ _) (fun _ => LeO.refl _)) (LeO.refl _)
set_option maxHeartbeats 400000 in
theorem impl_PrUgly.calls (k : Nat) (a0 : ByteArray) (r : ByteArray) (w : World) (h : impl_PrUgly.f k a0 = some r) :
    Calls Try.prog 13 #[.string a0] w fun e w' => e = .returned (.string r) ∧ Below w.heap.size w w' := by
  unfold impl_PrUgly.f at h
  by_cases hs : a0.size ≤ 140737488351232
  · rw [if_pos hs] at h
    replace h := Option.bind_eq_some_iff.mp h
    obtain ⟨x, h, hx⟩ := h
    obtain rfl := Option.some.inj hx
    clear hx
    have H := Aside0.mk h
    have HS := Aside0.mk hs
    clear h hs
    have kb := fun W => print_bytes (P := Try.prog) 9 42 5 Try.underlying9 Try.underlying42 Try.underlying5 a0 W
    go_enter Try.func13, Try.ntmps13
    go_wp2_with fail
    have hC : Kd.C (Kd.int .u8) (Lib.bytesWorld w 5 a0) (some ⟨w.heap.size, 0, none⟩) (bytesOf a0).length (bytesOf a0) := by
      have h := bytes_reads w 5 a0 (by have := HS.out; omega)
      rw [← bytesOf_length] at h
      exact Kd.C_of_reads (d := (0 : Int)) (h1 := fun _ => rfl) h
    have hl := bytesOf_length a0
    refine calls_of_args (args' := #[.slice (some ⟨w.heap.size, 0, none⟩) (bytesOf a0).length (grownCap w a0.size 0 5)]) (by rw [hl]) ?_
    refine (pretty_Ugly.calls k (some ⟨w.heap.size, 0, none⟩) (grownCap w a0.size 0 5) (bytesOf a0) x _ hC (by rw [hl]; exact grownCap_ge ..) H.out).mono ?_
    rintro e w' ⟨v0, rfl, ho2, hd⟩
    clear hC hl kb
    have hb := below_then (bytes_below (Below.refl w.heap.size w) (Nat.le_refl _) 5 a0) (by rw [Lib.bytesWorld_size]; omega) hd
    have HB := Aside0.mk hb
    have ks := own_string (P := Try.prog) Try.underlying42 Try.underlying5 Try.underlying9 (Kd.own_of_R ho2)
    clear ho2
    clear hb hd
    go_wp2
    go_ret
    exact ⟨rfl, HB.out⟩
  · rw [if_neg hs] at h; cases h

end Go.Proofs.Ytdndddembndnhaa.PA
