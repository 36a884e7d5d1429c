/- The contracts of errors.New, of a text's copy and of the errors that package strconv makes. -/
import Derived.Test.YtnajijaachgipaaDoorChecked
import Derived.Lib.Strings
import Derived.Lib.Walk
import Derived.Lib.BufferWrite
import Derived.Lib.UnsafeStr
import Derived.Lib.Hide
import Derived.Lib.ParseBool
import Derived.Lib.AtoiErrMem
import Derived.Lib.IfaceEq
import Derived.Laws.MakeOwn
import Derived.WalkKit
import Derived.RegionTactic
import Derived.Deep.RegionWith
import Derived.BigCall
import Derived.BigGuard
import Derived.Laws.IdiomStrings
import Derived.Deep.LoopGhost
import Derived.Below
import Derived.Test.YtnajijaachgipaaDoorWMore
namespace Go.Proofs.YtnajijaachgipaaDoor.H
set_option linter.unusedVariables false
set_option linter.unusedSimpArgs false
open Go.RowKit Go.Proofs.YtnajijaachgipaaDoorW.PrintWords Go.Proofs.YtnajijaachgipaaDoorW.PrintLast Go.Proofs.YtnajijaachgipaaDoorW.PrintMore

set_option maxHeartbeats 4000000 in
set_option maxRecDepth 100000 in
theorem clone (s : ByteArray) (w : World) (hlim : s.size ≤ 281474976710656) :
    Calls Tryd.prog 124 #[.string s] w fun e w' => e = .returned (.string s) ∧ Below w.heap.size w w' := by
  by_cases h0 : s.size = 0
  · have hs : s = ⟨#[]⟩ := by
      apply ByteArray.ext
      exact Array.eq_empty_of_size_eq_zero h0
    subst hs
    go_enter Tryd.func124, Tryd.ntmps124
    go_wp2
    go_ret
    exact ⟨rfl, Below.refl _ _⟩
  · obtain ⟨i0, hi, hz0, hz1, hz2⟩ := info_parts (P := Tryd.prog) (e := 5) (z := .int .u8 0) (size := 1) (bytes := 1) (by kernel_rfl)
    have hinfo : (Tryd.prog.info? 5).map (·.size) = some 1 := by rw [hi]; simp [hz1]
    have hco : Tryd.prog.cellsOf 5 = 1 := by simp [Program.cellsOf, hi, hz1]
    obtain ⟨M, hM⟩ : ∃ M, M = madeCells (Value.int .u8 0).cells (((s.size : Nat) : Int).toNat * i0.size) := ⟨_, rfl⟩
    have hMs : M.size = s.size := by rw [hM, size_madeCells, hz1]; simp
    have hmk : ∀ W : World, (Instr.makeSlice 47 (.int .i64 (s.size : Int)) (.int .i64 (s.size : Int))).run Tryd.prog W = .ok (.slice (some ⟨W.heap.size, 0, none⟩) s.size s.size) (W.alloc (.cells M 5)) := fun W => by
      have h := run_make (P := Tryd.prog) W 47 5 i0 (.int .u8 0) Tryd.underlying47 hi hz0 .i64 .i64 (s.size : Int) (s.size : Int) (by omega) (by omega) (by rw [hz2]; omega) (by omega)
      rw [← hM] at h
      simpa using h
    clear hM
    have hcp := Lib.run_copy_row_string (P := Tryd.prog) (w.alloc (.cells M 5)) 47 9 3 5 w.heap.size 0 s.size s.size s M 5 Tryd.underlying47 hinfo (heap_alloc_new w _) (Nat.le_refl _) (by omega)
    obtain ⟨Y, hY⟩ : ∃ Y, Y = (M.toList.take 0 ++ Lib.byteCells s.data.toList ++ M.toList.drop (0 + s.size)).toArray := ⟨_, rfl⟩
    rw [← hY] at hcp
    have hYl : Y.toList = Lib.byteCells s.data.toList := by
      rw [hY, List.toList_toArray, List.take_zero, List.nil_append, List.drop_of_length_le (by rw [Array.length_toList]; omega), List.append_nil]
    have hYs : Y.size = s.size := by rw [← Array.length_toList, hYl, Lib.byteCells_length, ← Lib.size_eq]
    have hgY : ((w.alloc (.cells M 5)).setRow w.heap.size Y).heap[w.heap.size]? = some (.cells Y 5 (0, 0)) := setRow_heap _ _ M _ 5 (0, 0) (heap_alloc_new w _)
    have hne : s.data.toList ≠ [] := fun e => h0 (by rw [Lib.size_eq, e]; rfl)
    have hUS := Lib.run_unsafeString_row (P := Tryd.prog) ((w.alloc (.cells M 5)).setRow w.heap.size Y) 165 3 9 5 Tryd.underlying165 hco w.heap.size Y.size (by unfold World.shape?; rw [hgY]) s.data.toList hne (by rw [← Lib.size_eq]; omega) (by rw [← Lib.size_eq]; omega)
      (fun j x hx => Lib.cells_of_row hgY Y.size j _ (by rw [List.take_of_length_le (by rw [Array.length_toList]; exact Nat.le_refl _), hYl]; simp [Lib.byteCells, hx]))
    rw [← Lib.size_eq] at hUS
    clear hY
    go_enter Tryd.func124, Tryd.ntmps124
    go_wp2
    go_ret
    have hb1 : Below w.heap.size w (w.alloc (.cells M 5)) := (Below.refl _ w).alloc (Nat.le_refl _) _
    have hb2 : Below w.heap.size (w.alloc (.cells M 5)) ((w.alloc (.cells M 5)).setRow w.heap.size Y) := ⟨rfl, rfl, rfl, by simp, fun k hk => setRow_other _ _ _ _ (by omega)⟩
    exact ⟨rfl, Lib.below_freeze (hb1.trans hb2) (p := ⟨w.heap.size, 0, none⟩) (Nat.le_refl _) _⟩

set_option maxHeartbeats 6400000 in
set_option maxRecDepth 100000 in
theorem syntaxError (fn s : ByteArray) (te : TypeId) (pe : Value) (w : World) (hlim : s.size ≤ 281474976710656) (hv : w.cell? ⟨0, 0, none⟩ = some (.iface te pe)) :
    Calls Tryd.prog 111 #[.string fn, .string s] w fun e w' => ∃ N : Nat, e = .returned (.pointer (some ⟨N, 0, none⟩)) ∧ Below w.heap.size w w' := by
  have hG : 0 < w.heap.size := Lib.lt_of_cell hv
  have hvd : w.drew.cell? ⟨0, 0, none⟩ = some _ := hv
  go_enter Tryd.func111, Tryd.ntmps111
  go_wp2
  go_region_with (
      go_at_call 124
      refine (clone s _ hlim).mono ?_
      rintro e w2 ⟨rfl, hbel⟩
      have hv2 : w2.cell? ⟨0, 0, none⟩ = some _ := (hbel.cell (show (⟨0, 0, none⟩ : Addr).block < w.drew.heap.size from hG)).trans hvd)
  all_goals (
    go_wp2
    go_ret
    have hs2 : w.heap.size ≤ w2.heap.size := hbel.size
    exact ⟨_, rfl, ((Below.drew (Below.refl _ w)).trans hbel).alloc hs2 _⟩)

set_option maxHeartbeats 4000000 in
set_option maxRecDepth 100000 in
theorem toError_syntax (fn s : ByteArray) (base bits : Int) (te : TypeId) (pe : Value) (w : World) (hlim : s.size ≤ 281474976710656) (hv : w.cell? ⟨0, 0, none⟩ = some (.iface te pe)) :
    Calls Tryd.prog 92 #[.string fn, .string s, .int .i64 base, .int .i64 bits, .iface 154 (.int .i64 2)] w fun e w' => ∃ p : Value, e = .returned (.iface 155 p) ∧ Below w.heap.size w w' := by
  have heq : ∀ W, (binOp .eql 54 (.iface 154 (.int .i64 2)) (.iface 154 (.int .i64 2))).run Tryd.prog W = .ok (.bool true) W := fun W => Lib.run_eql_iface_int W 2 2 Tryd.underlying54 (by kernel_rfl) Tryd.underlying154
  go_enter Tryd.func92, Tryd.ntmps92
  go_wp2_with (go_at_call 111; refine (syntaxError fn s te pe _ hlim ?_).mono ?_)
  · exact hv
  rintro e w2 ⟨N, rfl, h3⟩
  go_wp2
  go_ret
  exact ⟨_, rfl, h3⟩

set_option maxHeartbeats 6400000 in
set_option maxRecDepth 100000 in
theorem rangeError (fn s : ByteArray) (te : TypeId) (pe : Value) (w : World) (hlim : s.size ≤ 281474976710656) (hv : w.cell? ⟨1, 0, none⟩ = some (.iface te pe)) :
    Calls Tryd.prog 112 #[.string fn, .string s] w fun e w' => ∃ N : Nat, e = .returned (.pointer (some ⟨N, 0, none⟩)) ∧ Below w.heap.size w w' := by
  have hG : 1 < w.heap.size := Lib.lt_of_cell hv
  have hvd : w.drew.cell? ⟨1, 0, none⟩ = some _ := hv
  go_enter Tryd.func112, Tryd.ntmps112
  go_wp2
  go_region_with (
      go_at_call 124
      refine (clone s _ hlim).mono ?_
      rintro e w2 ⟨rfl, hbel⟩
      have hv2 : w2.cell? ⟨1, 0, none⟩ = some _ := (hbel.cell (show (⟨1, 0, none⟩ : Addr).block < w.drew.heap.size from hG)).trans hvd)
  all_goals (
    go_wp2
    go_ret
    have hs2 : w.heap.size ≤ w2.heap.size := hbel.size
    exact ⟨_, rfl, ((Below.drew (Below.refl _ w)).trans hbel).alloc hs2 _⟩)

set_option maxHeartbeats 4000000 in
set_option maxRecDepth 100000 in
theorem toError_range (fn s : ByteArray) (base bits : Int) (te : TypeId) (pe : Value) (w : World) (hlim : s.size ≤ 281474976710656) (hv : w.cell? ⟨1, 0, none⟩ = some (.iface te pe)) :
    Calls Tryd.prog 92 #[.string fn, .string s, .int .i64 base, .int .i64 bits, .iface 154 (.int .i64 1)] w fun e w' => ∃ p : Value, e = .returned (.iface 155 p) ∧ Below w.heap.size w w' := by
  have heq : ∀ W, (binOp .eql 54 (.iface 154 (.int .i64 1)) (.iface 154 (.int .i64 1))).run Tryd.prog W = .ok (.bool true) W := fun W => Lib.run_eql_iface_int W 1 1 Tryd.underlying54 (by kernel_rfl) Tryd.underlying154
  have hne : ∀ W, (binOp .eql 54 (.iface 154 (.int .i64 1)) (.iface 154 (.int .i64 2))).run Tryd.prog W = .ok (.bool false) W := fun W => Lib.run_eql_iface_int W 1 2 Tryd.underlying54 (by kernel_rfl) Tryd.underlying154
  go_enter Tryd.func92, Tryd.ntmps92
  go_wp2_with (go_at_call 112; refine (rangeError fn s te pe _ hlim ?_).mono ?_)
  · exact hv
  rintro e w2 ⟨N, rfl, h3⟩
  go_wp2
  go_ret
  exact ⟨_, rfl, h3⟩


set_option maxHeartbeats 1000000 in
set_option maxRecDepth 100000 in
theorem errorsNew (s : ByteArray) (w : World) :
    Calls Tryd.prog 41 #[.string s] w fun e w' => ∃ (et : Nat) (ep : Value), e = .returned (.iface et ep) ∧ Below w.heap.size w w' := by
  have hb : Below w.heap.size w (w.alloc (.cells #[.string s] 117)) := (Below.refl _ w).alloc (Nat.le_refl _) _
  have HB := Aside0.mk hb
  clear hb
  go_enter Tryd.func41, Tryd.ntmps41
  go_wp2
  go_ret
  exact ⟨_, _, rfl, HB.out⟩
end Go.Proofs.YtnajijaachgipaaDoor.H
