-- Written by a program of this session out of the translation (a changed copy of the kit's print); Lean checks it.
import Derived.Test.YtnajijaachgipaaDoorPFx0
import Derived.Test.YtnajijaachgipaaDoorPFx1
import Derived.Test.YtnajijaachgipaaDoorPFx2
import Derived.Test.YtnajijaachgipaaDoorPFx5
namespace Go.Proofs.YtnajijaachgipaaDoor.PF
open Go.RowKit Go.Proofs.YtnajijaachgipaaDoorW.PrintWords Go.Proofs.YtnajijaachgipaaDoorW.PrintLast Go.Proofs.YtnajijaachgipaaDoorW.PrintMore
attribute [local go_sem] max2_int min2_int max_two min_two max_three min_three max_four min_four   -- for this text's walks alone
set_option linter.unusedVariables false
set_option linter.unusedSimpArgs false

/-! ### impl_FjNumberInt64: function 8, by hand -/
def impl_FjNumberInt64.f (k : Nat) (a0 : ByteArray) : Option (Int × Bool) := (fastfloat_ParseInt64.f k a0).bind fun b => if b.2.isNone = true then some (b.1, true) else some (b.1, false)
theorem impl_FjNumberInt64.mono : ∀ a0 k, LeO (impl_FjNumberInt64.f k a0) (impl_FjNumberInt64.f (k + 1) a0) := by
  intro a0 k
  unfold impl_FjNumberInt64.f
  exact LeO.bind (fastfloat_ParseInt64.mono _ _) (fun _ => LeO.refl _)
theorem impl_FjNumberInt64.calls (k : Nat) (a0 : ByteArray) (r1 : Int) (r2 : Bool) (w : World) (hT0 : Kd.C Kd.errk w (some ⟨0, 0, none⟩) tabG0.length tabG0) (hT1 : Kd.C Kd.errk w (some ⟨1, 0, none⟩) tabG1.length tabG1) (h : impl_FjNumberInt64.f k a0 = some (r1, r2)) :
    Calls Tryd.prog 8 #[.string a0] w fun e w' => e = .returned (.tuple #[.int .i64 r1, .bool r2]) ∧ Below w.heap.size w w' := by
  obtain ⟨te6, pe6, hv6⟩ := errk_cell hT0
  obtain ⟨te7, pe7, hv7⟩ := errk_cell hT1
  have hG6 : 0 < w.heap.size := Lib.lt_of_cell hv6
  have hG7 : 1 < w.heap.size := Lib.lt_of_cell hv7
  unfold impl_FjNumberInt64.f at h
  obtain ⟨⟨x, o⟩, hp, hx⟩ := Option.bind_eq_some_iff.mp h
  have hc := fun (W : World) (hb : Below w.heap.size w W) => fastfloat_ParseInt64.calls k a0 x o W (errk_of ((hb.cell (p := ⟨0, 0, none⟩) hG6).trans hv6)) (errk_of ((hb.cell (p := ⟨1, 0, none⟩) hG7).trans hv7)) hp
  cases o with
  | none =>
    simp only [Option.isNone_none, if_true, Option.some.injEq, Prod.mk.injEq] at hx
    obtain ⟨rfl, rfl⟩ := hx
    refine H.door64_ok a0 w x fun W hb => (hc W hb).mono ?_
    rintro e w' ⟨et, ep, rfl, hd⟩
    exact ⟨rfl, hd⟩
  | some c =>
    simp only [Option.isNone_some, Bool.false_eq_true, if_false, Option.some.injEq, Prod.mk.injEq] at hx
    obtain ⟨rfl, rfl⟩ := hx
    refine H.door64_err a0 w x fun W hb => (hc W hb).mono ?_
    rintro e w' ⟨et, ep, rfl, hd⟩
    exact ⟨_, _, rfl, hd⟩

end Go.Proofs.YtnajijaachgipaaDoor.PF
