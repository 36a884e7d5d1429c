-- Written by a program of this session out of the translation (a changed copy of the kit's print); Lean checks it.
import Derived.Test.YtdndddembndnhaaPAx0
import Derived.Test.YtdndddembndnhaaPAx2
import Derived.Test.YtdndddembndnhaaPAx11
import Derived.Test.YtdndddembndnhaaPAx12
import Derived.Test.YtdndddembndnhaaPAx13
import Derived.Test.YtdndddembndnhaaPAx14
namespace Go.Proofs.Ytdndddembndnhaa.PA
open Go.RowKit Go.Proofs.YtdndddembndnhaaW.PrintWords Go.Proofs.YtdndddembndnhaaW.PrintLast Go.Proofs.YtdndddembndnhaaW.PrintMore
attribute [local go_sem] max2_int min2_int max_two min_two max_three min_three max_four min_four   -- for this text's walks alone
set_option linter.unusedVariables false
set_option linter.unusedSimpArgs false

def spec_reader_members.Stmt (k : Nat) : Prop := ∀ (g : Nat) (s0_0 : ByteArray) (s0_1 : Int) (r1 : List (S64)) (r2 : List (S32)) (r3 : Bool) (r4 : ByteArray) (r5 : Int) (w0 w : World) (hI : IsS46 w0 w g s0_0 s0_1) (hB : Below w0.heap.size w0 w) (h : spec_reader_members.f k s0_0 s0_1 = some (r1, r2, r3, r4, r5)),
    Calls Try.prog 39 #[.pointer (some ⟨g, 0, none⟩)] w fun e w' => ∃ v0_ v1_ : Value, e = .returned (.tuple #[v0_, v1_, .bool r3]) ∧ Kd.R k64 64 w' w.heap.size (fun _ => True) v0_ r1 ∧ Kd.R k32 32 w' w.heap.size (fun k_ => some k_ ≠ (v0_ : Value).ownBlock) v1_ r2 ∧ IsS46 w0 w' g r4 r5 ∧ Below w0.heap.size w0 w' ∧ KeepBut w w' g none
def spec_reader_elements.Stmt (k : Nat) : Prop := ∀ (g : Nat) (s0_0 : ByteArray) (s0_1 : Int) (r1 : List (S32)) (r2 : Bool) (r3 : ByteArray) (r4 : Int) (w0 w : World) (hI : IsS46 w0 w g s0_0 s0_1) (hB : Below w0.heap.size w0 w) (h : spec_reader_elements.f k s0_0 s0_1 = some (r1, r2, r3, r4)),
    Calls Try.prog 40 #[.pointer (some ⟨g, 0, none⟩)] w fun e w' => ∃ v0_ : Value, e = .returned (.tuple #[v0_, .bool r2]) ∧ Kd.R k32 32 w' w.heap.size (fun _ => True) v0_ r1 ∧ IsS46 w0 w' g r3 r4 ∧ Below w0.heap.size w0 w' ∧ KeepBut w w' g none
def spec_reader_value.Stmt (k : Nat) : Prop := ∀ (g : Nat) (s0_0 : ByteArray) (s0_1 : Int) (r1 : Int) (r2 : Int) (r3 : Int) (r4 : List (S64)) (r5 : List (S32)) (r6 : Bool) (r7 : ByteArray) (r8 : Int) (w0 w : World) (hI : IsS46 w0 w g s0_0 s0_1) (hB : Below w0.heap.size w0 w) (h : spec_reader_value.f k s0_0 s0_1 = some (r1, r2, r3, r4, r5, r6, r7, r8)),
    Calls Try.prog 26 #[.pointer (some ⟨g, 0, none⟩)] w fun e w' => ∃ v3_ v4_ : Value, e = .returned (.tuple #[.agg #[.int .i64 r1, .int .i64 r2, .int .i64 r3, v3_, v4_], .bool r6]) ∧ Kd.R k64 64 w' w.heap.size (fun _ => True) v3_ r4 ∧ Kd.R k32 32 w' w.heap.size (fun k_ => some k_ ≠ (v3_ : Value).ownBlock) v4_ r5 ∧ IsS46 w0 w' g r7 r8 ∧ Below w0.heap.size w0 w' ∧ KeepBut w w' g none
theorem spec_reader_value.scc (k : Nat) : spec_reader_members.Stmt k ∧ spec_reader_elements.Stmt k ∧ spec_reader_value.Stmt k := by
  induction k using Nat.strongRecOn with
  | _ k ih =>
  exact ⟨spec_reader_members.calls_scc k (fun j hj => (ih j hj).1) (fun j hj => (ih j hj).2.1) (fun j hj => (ih j hj).2.2), spec_reader_elements.calls_scc k (fun j hj => (ih j hj).1) (fun j hj => (ih j hj).2.1) (fun j hj => (ih j hj).2.2), spec_reader_value.calls_scc k (fun j hj => (ih j hj).1) (fun j hj => (ih j hj).2.1) (fun j hj => (ih j hj).2.2)⟩
theorem spec_reader_members.calls (k : Nat) : ∀ (g : Nat) (s0_0 : ByteArray) (s0_1 : Int) (r1 : List (S64)) (r2 : List (S32)) (r3 : Bool) (r4 : ByteArray) (r5 : Int) (w0 w : World) (hI : IsS46 w0 w g s0_0 s0_1) (hB : Below w0.heap.size w0 w) (h : spec_reader_members.f k s0_0 s0_1 = some (r1, r2, r3, r4, r5)),
    Calls Try.prog 39 #[.pointer (some ⟨g, 0, none⟩)] w fun e w' => ∃ v0_ v1_ : Value, e = .returned (.tuple #[v0_, v1_, .bool r3]) ∧ Kd.R k64 64 w' w.heap.size (fun _ => True) v0_ r1 ∧ Kd.R k32 32 w' w.heap.size (fun k_ => some k_ ≠ (v0_ : Value).ownBlock) v1_ r2 ∧ IsS46 w0 w' g r4 r5 ∧ Below w0.heap.size w0 w' ∧ KeepBut w w' g none := (spec_reader_value.scc k).1
theorem spec_reader_elements.calls (k : Nat) : ∀ (g : Nat) (s0_0 : ByteArray) (s0_1 : Int) (r1 : List (S32)) (r2 : Bool) (r3 : ByteArray) (r4 : Int) (w0 w : World) (hI : IsS46 w0 w g s0_0 s0_1) (hB : Below w0.heap.size w0 w) (h : spec_reader_elements.f k s0_0 s0_1 = some (r1, r2, r3, r4)),
    Calls Try.prog 40 #[.pointer (some ⟨g, 0, none⟩)] w fun e w' => ∃ v0_ : Value, e = .returned (.tuple #[v0_, .bool r2]) ∧ Kd.R k32 32 w' w.heap.size (fun _ => True) v0_ r1 ∧ IsS46 w0 w' g r3 r4 ∧ Below w0.heap.size w0 w' ∧ KeepBut w w' g none := (spec_reader_value.scc k).2.1
theorem spec_reader_value.calls (k : Nat) : ∀ (g : Nat) (s0_0 : ByteArray) (s0_1 : Int) (r1 : Int) (r2 : Int) (r3 : Int) (r4 : List (S64)) (r5 : List (S32)) (r6 : Bool) (r7 : ByteArray) (r8 : Int) (w0 w : World) (hI : IsS46 w0 w g s0_0 s0_1) (hB : Below w0.heap.size w0 w) (h : spec_reader_value.f k s0_0 s0_1 = some (r1, r2, r3, r4, r5, r6, r7, r8)),
    Calls Try.prog 26 #[.pointer (some ⟨g, 0, none⟩)] w fun e w' => ∃ v3_ v4_ : Value, e = .returned (.tuple #[.agg #[.int .i64 r1, .int .i64 r2, .int .i64 r3, v3_, v4_], .bool r6]) ∧ Kd.R k64 64 w' w.heap.size (fun _ => True) v3_ r4 ∧ Kd.R k32 32 w' w.heap.size (fun k_ => some k_ ≠ (v3_ : Value).ownBlock) v4_ r5 ∧ IsS46 w0 w' g r7 r8 ∧ Below w0.heap.size w0 w' ∧ KeepBut w w' g none := (spec_reader_value.scc k).2.2

end Go.Proofs.Ytdndddembndnhaa.PA
