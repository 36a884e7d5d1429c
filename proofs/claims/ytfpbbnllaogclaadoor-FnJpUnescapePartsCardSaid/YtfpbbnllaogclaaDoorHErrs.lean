import Derived.Test.YtfpbbnllaogclaaDoorChecked
import Derived.Lib.Strings
import Derived.Lib.Walk
import Derived.Lib.BufferWrite
import Derived.Lib.UnsafeStr
import Derived.Lib.Hide
import Derived.Lib.ParseBool
import Derived.Lib.AtoiErrMem
import Derived.Lib.IfaceEq
import Derived.Laws.MakeOwn
import Derived.WalkKit
import Derived.RegionTactic
import Derived.Deep.RegionWith
import Derived.BigCall
import Derived.BigGuard
import Derived.Laws.IdiomStrings
import Derived.Deep.LoopGhost
import Derived.Below
import Derived.Test.YtfpbbnllaogclaaDoorWMore
namespace Go.Proofs.YtfpbbnllaogclaaDoor.H
set_option linter.unusedVariables false
set_option linter.unusedSimpArgs false
open Go.RowKit Go.Proofs.YtfpbbnllaogclaaDoorW.PrintWords Go.Proofs.YtfpbbnllaogclaaDoorW.PrintLast Go.Proofs.YtfpbbnllaogclaaDoorW.PrintMore

set_option maxHeartbeats 4000000 in
set_option maxRecDepth 100000 in
theorem clone (s : ByteArray) (w : World) (hlim : s.size ≤ 281474976710656) :
    Calls Tryd.prog 116 #[.string s] w fun e w' => e = .returned (.string s) ∧ Below w.heap.size w w' := by
  by_cases h0 : s.size = 0
  · have hs : s = ⟨#[]⟩ := by
      apply ByteArray.ext
      exact Array.eq_empty_of_size_eq_zero h0
    subst hs
    go_enter Tryd.func116, Tryd.ntmps116
    go_wp2
    go_ret
    exact ⟨rfl, Below.refl _ _⟩
  · obtain ⟨i0, hi, hz0, hz1, hz2⟩ := info_parts (P := Tryd.prog) (e := 5) (z := .int .u8 0) (size := 1) (bytes := 1) (by kernel_rfl)
    have hinfo : (Tryd.prog.info? 5).map (·.size) = some 1 := by rw [hi]; simp [hz1]
    have hco : Tryd.prog.cellsOf 5 = 1 := by simp [Program.cellsOf, hi, hz1]
    obtain ⟨M, hM⟩ : ∃ M, M = madeCells (Value.int .u8 0).cells (((s.size : Nat) : Int).toNat * i0.size) := ⟨_, rfl⟩
    have hMs : M.size = s.size := by rw [hM, size_madeCells, hz1]; simp
    have hmk : ∀ W : World, (Instr.makeSlice 53 (.int .i64 (s.size : Int)) (.int .i64 (s.size : Int))).run Tryd.prog W = .ok (.slice (some ⟨W.heap.size, 0, none⟩) s.size s.size) (W.alloc (.cells M 5)) := fun W => by
      have h := run_make (P := Tryd.prog) W 53 5 i0 (.int .u8 0) Tryd.underlying53 hi hz0 .i64 .i64 (s.size : Int) (s.size : Int) (by omega) (by omega) (by rw [hz2]; omega) (by omega)
      rw [← hM] at h
      simpa using h
    clear hM
    have hcp := Lib.run_copy_row_string (P := Tryd.prog) (w.alloc (.cells M 5)) 53 9 3 5 w.heap.size 0 s.size s.size s M 5 Tryd.underlying53 hinfo (heap_alloc_new w _) (Nat.le_refl _) (by omega)
    obtain ⟨Y, hY⟩ : ∃ Y, Y = (M.toList.take 0 ++ Lib.byteCells s.data.toList ++ M.toList.drop (0 + s.size)).toArray := ⟨_, rfl⟩
    rw [← hY] at hcp
    have hYl : Y.toList = Lib.byteCells s.data.toList := by
      rw [hY, List.toList_toArray, List.take_zero, List.nil_append, List.drop_of_length_le (by rw [Array.length_toList]; omega), List.append_nil]
    have hYs : Y.size = s.size := by rw [← Array.length_toList, hYl, Lib.byteCells_length, ← Lib.size_eq]
    have hgY : ((w.alloc (.cells M 5)).setRow w.heap.size Y).heap[w.heap.size]? = some (.cells Y 5 (0, 0)) := setRow_heap _ _ M _ 5 (0, 0) (heap_alloc_new w _)
    have hne : s.data.toList ≠ [] := fun e => h0 (by rw [Lib.size_eq, e]; rfl)
    have hUS := Lib.run_unsafeString_row (P := Tryd.prog) ((w.alloc (.cells M 5)).setRow w.heap.size Y) 165 3 9 5 Tryd.underlying165 hco w.heap.size Y.size (by unfold World.shape?; rw [hgY]) s.data.toList hne (by rw [← Lib.size_eq]; omega) (by rw [← Lib.size_eq]; omega)
      (fun j x hx => Lib.cells_of_row hgY Y.size j _ (by rw [List.take_of_length_le (by rw [Array.length_toList]; exact Nat.le_refl _), hYl]; simp [Lib.byteCells, hx]))
    rw [← Lib.size_eq] at hUS
    clear hY
    go_enter Tryd.func116, Tryd.ntmps116
    go_wp2
    go_ret
    have hb1 : Below w.heap.size w (w.alloc (.cells M 5)) := (Below.refl _ w).alloc (Nat.le_refl _) _
    have hb2 : Below w.heap.size (w.alloc (.cells M 5)) ((w.alloc (.cells M 5)).setRow w.heap.size Y) := ⟨rfl, rfl, rfl, by simp, fun k hk => setRow_other _ _ _ _ (by omega)⟩
    exact ⟨rfl, Lib.below_freeze (hb1.trans hb2) (p := ⟨w.heap.size, 0, none⟩) (Nat.le_refl _) _⟩

set_option maxHeartbeats 6400000 in
set_option maxRecDepth 100000 in
theorem syntaxError (fn s : ByteArray) (te : TypeId) (pe : Value) (w : World) (hlim : s.size ≤ 281474976710656) (hv : w.cell? ⟨6, 0, none⟩ = some (.iface te pe)) :
    Calls Tryd.prog 105 #[.string fn, .string s] w fun e w' => ∃ N : Nat, e = .returned (.pointer (some ⟨N, 0, none⟩)) ∧ Below w.heap.size w w' := by
  have hG : 6 < w.heap.size := Lib.lt_of_cell hv
  have hvd : w.drew.cell? ⟨6, 0, none⟩ = some _ := hv
  go_enter Tryd.func105, Tryd.ntmps105
  go_wp2
  go_region_with (
      go_at_call 116
      refine (clone s _ hlim).mono ?_
      rintro e w2 ⟨rfl, hbel⟩
      have hv2 : w2.cell? ⟨6, 0, none⟩ = some _ := (hbel.cell (show (⟨6, 0, none⟩ : Addr).block < w.drew.heap.size from hG)).trans hvd)
  all_goals (
    go_wp2
    go_ret
    have hs2 : w.heap.size ≤ w2.heap.size := hbel.size
    exact ⟨_, rfl, ((Below.drew (Below.refl _ w)).trans hbel).alloc hs2 _⟩)

set_option maxHeartbeats 4000000 in
set_option maxRecDepth 100000 in
theorem toError_syntax (fn s : ByteArray) (base bits : Int) (te : TypeId) (pe : Value) (w : World) (hlim : s.size ≤ 281474976710656) (hv : w.cell? ⟨6, 0, none⟩ = some (.iface te pe)) :
    Calls Tryd.prog 94 #[.string fn, .string s, .int .i64 base, .int .i64 bits, .iface 148 (.int .i64 2)] w fun e w' => ∃ p : Value, e = .returned (.iface 149 p) ∧ Below w.heap.size w w' := by
  have heq : ∀ W, (binOp .eql 73 (.iface 148 (.int .i64 2)) (.iface 148 (.int .i64 2))).run Tryd.prog W = .ok (.bool true) W := fun W => Lib.run_eql_iface_int W 2 2 Tryd.underlying73 (by kernel_rfl) Tryd.underlying148
  go_enter Tryd.func94, Tryd.ntmps94
  go_wp2_with (go_at_call 105; refine (syntaxError fn s te pe _ hlim ?_).mono ?_)
  · exact hv
  rintro e w2 ⟨N, rfl, h3⟩
  go_wp2
  go_ret
  exact ⟨_, rfl, h3⟩

set_option maxHeartbeats 6400000 in
set_option maxRecDepth 100000 in
theorem rangeError (fn s : ByteArray) (te : TypeId) (pe : Value) (w : World) (hlim : s.size ≤ 281474976710656) (hv : w.cell? ⟨7, 0, none⟩ = some (.iface te pe)) :
    Calls Tryd.prog 106 #[.string fn, .string s] w fun e w' => ∃ N : Nat, e = .returned (.pointer (some ⟨N, 0, none⟩)) ∧ Below w.heap.size w w' := by
  have hG : 7 < w.heap.size := Lib.lt_of_cell hv
  have hvd : w.drew.cell? ⟨7, 0, none⟩ = some _ := hv
  go_enter Tryd.func106, Tryd.ntmps106
  go_wp2
  go_region_with (
      go_at_call 116
      refine (clone s _ hlim).mono ?_
      rintro e w2 ⟨rfl, hbel⟩
      have hv2 : w2.cell? ⟨7, 0, none⟩ = some _ := (hbel.cell (show (⟨7, 0, none⟩ : Addr).block < w.drew.heap.size from hG)).trans hvd)
  all_goals (
    go_wp2
    go_ret
    have hs2 : w.heap.size ≤ w2.heap.size := hbel.size
    exact ⟨_, rfl, ((Below.drew (Below.refl _ w)).trans hbel).alloc hs2 _⟩)

set_option maxHeartbeats 4000000 in
set_option maxRecDepth 100000 in
theorem toError_range (fn s : ByteArray) (base bits : Int) (te : TypeId) (pe : Value) (w : World) (hlim : s.size ≤ 281474976710656) (hv : w.cell? ⟨7, 0, none⟩ = some (.iface te pe)) :
    Calls Tryd.prog 94 #[.string fn, .string s, .int .i64 base, .int .i64 bits, .iface 148 (.int .i64 1)] w fun e w' => ∃ p : Value, e = .returned (.iface 149 p) ∧ Below w.heap.size w w' := by
  have heq : ∀ W, (binOp .eql 73 (.iface 148 (.int .i64 1)) (.iface 148 (.int .i64 1))).run Tryd.prog W = .ok (.bool true) W := fun W => Lib.run_eql_iface_int W 1 1 Tryd.underlying73 (by kernel_rfl) Tryd.underlying148
  have hne : ∀ W, (binOp .eql 73 (.iface 148 (.int .i64 1)) (.iface 148 (.int .i64 2))).run Tryd.prog W = .ok (.bool false) W := fun W => Lib.run_eql_iface_int W 1 2 Tryd.underlying73 (by kernel_rfl) Tryd.underlying148
  go_enter Tryd.func94, Tryd.ntmps94
  go_wp2_with (go_at_call 106; refine (rangeError fn s te pe _ hlim ?_).mono ?_)
  · exact hv
  rintro e w2 ⟨N, rfl, h3⟩
  go_wp2
  go_ret
  exact ⟨_, rfl, h3⟩


set_option maxHeartbeats 1000000 in
set_option maxRecDepth 100000 in
theorem errorsNew (s : ByteArray) (w : World) :
    Calls Tryd.prog 81 #[.string s] w fun e w' => ∃ (et : Nat) (ep : Value), e = .returned (.iface et ep) ∧ Below w.heap.size w w' := by
  have hb : Below w.heap.size w (w.alloc (.cells #[.string s] 147)) := (Below.refl _ w).alloc (Nat.le_refl _) _
  have HB := Aside0.mk hb
  clear hb
  go_enter Tryd.func81, Tryd.ntmps81
  go_wp2
  go_ret
  exact ⟨_, _, rfl, HB.out⟩
set_option maxHeartbeats 2000000 in
set_option maxRecDepth 100000 in
theorem parseBoolIn (s : ByteArray) (b : Bool) (h : Lib.parseBool s.data.toList = some b) (w : World) :
    Calls Tryd.prog 93 #[.string s] w fun e w' => e = .returned (.tuple #[.bool b, .nilIface]) ∧ w' = w := by
  rw [Lib.parseBool_bytes, ← Lib.toList_data] at h
  have Hh := Lib.hid h
  clear h
  go_enter Tryd.func93, Tryd.ntmps93
  go_wp2
  all_goals (
    have h := Hh.out
    go_ret2
    simp_all)

set_option maxHeartbeats 2000000 in
set_option maxRecDepth 100000 in
theorem parseBoolIn_err (s : ByteArray) (h : Lib.parseBool s.data.toList = none) (w : World) :
    Calls Tryd.prog 93 #[.string s] w fun e w' => e = .returned (.tuple #[.bool false, .iface 148 (.int .i64 2)]) ∧ w' = w := by
  rw [Lib.parseBool_bytes, ← Lib.toList_data] at h
  have Hh := Lib.hid h
  clear h
  go_enter Tryd.func93, Tryd.ntmps93
  go_wp2
  all_goals (
    have h := Hh.out
    go_ret2
    simp_all)

set_option maxHeartbeats 2000000 in
set_option maxRecDepth 100000 in
theorem parseBool (s : ByteArray) (b : Bool) (h : Lib.parseBool s.data.toList = some b) (w : World) :
    Calls Tryd.prog 76 #[.string s] w fun e w' => e = .returned (.tuple #[.bool b, .nilIface]) ∧ w' = w := by
  go_enter Tryd.func76, Tryd.ntmps76
  go_wp2_with (go_at_call 93; refine (parseBoolIn s b h _).mono ?_; rintro e w' ⟨rfl, rfl⟩)
  go_ret2
  exact ⟨rfl, rfl⟩

set_option maxHeartbeats 4000000 in
set_option maxRecDepth 100000 in
theorem parseBool_err (s : ByteArray) (h : Lib.parseBool s.data.toList = none) (te : TypeId) (pe : Value) (w : World) (hlim : s.size ≤ 281474976710656) (hv : w.cell? ⟨6, 0, none⟩ = some (.iface te pe)) :
    Calls Tryd.prog 76 #[.string s] w fun e w' => ∃ p : Value, e = .returned (.tuple #[.bool false, .iface 149 p]) ∧ Below w.heap.size w w' := by
  go_enter Tryd.func76, Tryd.ntmps76
  go_wp2_with (first
    | (go_at_call 93; refine (parseBoolIn_err s h _).mono ?_; rintro e w' ⟨rfl, rfl⟩)
    | (go_at_call 94; refine (toError_syntax ⟨#[80, 97, 114, 115, 101, 66, 111, 111, 108]⟩ s 0 0 te pe _ hlim ?_).mono ?_))
  · exact hv
  rintro e W2 ⟨p, rfl, h3⟩
  go_wp2
  go_ret2
  exact ⟨_, rfl, h3⟩

/-- A byte's small letter. -/
def lowB (b : UInt8) : UInt8 := if 65 ≤ b.toNat ∧ b.toNat ≤ 90 then b + 32 else b
def low (s : ByteArray) : ByteArray := ⟨(s.data.toList.map lowB).toArray⟩
theorem len_low (s : ByteArray) : (s.data.toList.map lowB).length = s.size := by rw [List.length_map, Array.length_toList]; rfl
theorem low_num (b : UInt8) (h : b.toNat + 32 < 256) : (((b + 32 : UInt8)).toNat : Int) = (b.toNat : Int) + 32 := by
  rw [UInt8.toNat_add]
  have : b.toNat + (32 : UInt8).toNat = b.toNat + 32 := rfl
  omega
theorem add0 (g j : Nat) : (⟨g, 0, none⟩ : Addr).add j = ⟨g, j, none⟩ := by
  unfold Addr.add
  split <;> simp_all

set_option maxHeartbeats 4000000 in
set_option maxRecDepth 100000 in
theorem small (s : ByteArray) (w : World) (hsz : s.size ≤ 140737488351232) :
    Calls Tryd.prog 22 #[.string s] w fun e w' => e = .returned (.string (low s)) ∧ Below w.heap.size w w' := by
  obtain ⟨cap, hcap⟩ : ∃ c, c = grownCap w s.size 0 5 := ⟨_, rfl⟩
  have hconv := run_bytes_of_string (P := Tryd.prog) w 9 53 5 s Tryd.underlying9 Tryd.underlying53 Tryd.underlying5
  rw [← hcap] at hconv
  obtain ⟨C, hC⟩ : ∃ C, C = bytesRow s cap := ⟨_, rfl⟩
  have hCa : ∀ j (hj : j < s.data.size), C[j]? = some (.int .u8 (s.data[j].toNat : Int)) := fun j hj => by rw [hC]; exact bytesRow_at s cap j hj
  have hCs : s.size ≤ C.size := by
    rw [hC]; unfold bytesRow; rw [Array.size_append, Array.size_map]; exact Nat.le_add_right s.data.size _
  rw [← hC] at hconv
  clear hC hcap
  obtain ⟨W0, hW0⟩ : ∃ W, W = w.drew.alloc (.cells C 5 (C.size, C.size + 1)) := ⟨_, rfl⟩
  rw [← hW0] at hconv
  have hB0 : Below w.heap.size w W0 := by rw [hW0]; exact ((Below.refl _ w).drew).alloc (Nat.le_refl _) _
  have hc0 : ∀ j (hj : j < s.data.size), W0.cell? ⟨w.heap.size, j, none⟩ = some (.int .u8 (s.data[j].toNat : Int)) := fun j hj => by
    rw [hW0]; exact (World.cell?_alloc_mark w.drew C 5 _ j).trans (hCa j hj)
  have hf0 : ∀ j, j < s.data.size → W0.frozen? ⟨w.heap.size, j, none⟩ = false := fun j hj => by
    rw [hW0]; rw [show w.heap.size = w.drew.heap.size from rfl, World.frozen?_alloc_mark]
    have : ¬ C.size ≤ j := by have : s.size = s.data.size := rfl; omega
    simp [this]
  clear hW0 hCa
  have HB0 := Aside0.mk hB0
  have HC0 := Aside0.mk hc0
  have HF0 := Aside0.mk hf0
  clear hB0 hc0 hf0
  go_enter Tryd.func22, Tryd.ntmps22
  go_wp2
  go_loopg [4, 5, 10] s.size (fun kq v4 v5 v10 wr => ∃ i : Nat, kq = s.size - i ∧ i ≤ s.size ∧ v10 = .int .i64 (i : Int) ∧ Aside0 (Below w.heap.size w wr) ∧ Aside0 (∀ j (hj : j < s.data.size), wr.cell? ⟨w.heap.size, j, none⟩ = some (.int .u8 ((if j < i then lowB s.data[j] else s.data[j]).toNat : Int))) ∧ Aside0 (∀ j, j < s.data.size → wr.frozen? ⟨w.heap.size, j, none⟩ = false))
  case atStart => exact ⟨0, by omega, by omega, rfl, HB0, ⟨fun j hj => by rw [if_neg (by omega)]; exact HC0.out j hj⟩, HF0⟩
  case round =>
    clear HB0 HC0 HF0
    obtain ⟨i, hk, hle, rfl, HB, HC, HF⟩ := hrel
    by_cases hi : i < s.size
    · have hi' : i < s.data.size := hi
      have hc : wr.cell? ⟨w.heap.size, i, none⟩ = some (.int .u8 (s.data[i].toNat : Int)) := by
        have := HC.out i hi'
        rwa [if_neg (by omega)] at this
      have hf : wr.frozen? ⟨w.heap.size, i, none⟩ = false := HF.out i hi'
      have hlt : (i : Int) < (s.size : Int) := by omega
      obtain ⟨b, hb⟩ : ∃ b, b = s.data[i] := ⟨_, rfl⟩
      rw [← hb] at hc
      have HI := Aside0.mk hi
      have HI' := Aside0.mk hb
      have HL := Aside0.mk hle
      have HK := Aside0.mk hk
      clear hi hle hk hb
      have stay : lowB b = b → Aside0 (∀ j (hj : j < s.data.size), wr.cell? ⟨w.heap.size, j, none⟩ = some (.int .u8 ((if j < i + 1 then lowB s.data[j] else s.data[j]).toNat : Int))) := fun hb => ⟨fun j hj => by
        rw [HC.out j hj]
        by_cases hji : j < i
        · rw [if_pos hji, if_pos (by omega)]
        · by_cases hj2 : j = i
          · subst hj2
            rw [if_neg hji, if_pos (by omega), ← HI'.out, hb]
          · rw [if_neg hji, if_neg (by omega)]⟩
      have turn : lowB b = b + 32 → b.toNat + 32 < 256 → Aside0 (∀ j (hj : j < s.data.size), (wr.setCell ⟨w.heap.size, i, none⟩ (.int .u8 ((b.toNat : Int) + 32))).cell? ⟨w.heap.size, j, none⟩ = some (.int .u8 ((if j < i + 1 then lowB s.data[j] else s.data[j]).toNat : Int))) := fun hb hlt2 => ⟨fun j hj => by
        by_cases hj2 : j = i
        · subst hj2
          rw [World.cell?_setCell_same' _ _ _ (by rw [hc]; rfl), if_pos (by omega), ← HI'.out, hb, low_num b hlt2]
        · rw [World.cell?_setCell_other _ _ _ _ (fun e => hj2 (by injection e with _ e2 _; exact e2.symm)), HC.out j hj]
          by_cases hji : j < i
          · rw [if_pos hji, if_pos (by omega)]
          · rw [if_neg hji, if_neg (by omega)]⟩
      have still : Aside0 (∀ j, j < s.data.size → (wr.setCell ⟨w.heap.size, i, none⟩ (.int .u8 ((b.toNat : Int) + 32))).frozen? ⟨w.heap.size, j, none⟩ = false) := ⟨fun j hj => by rw [World.frozen?_setCell]; exact HF.out j hj⟩
      have bel : Aside0 (Below w.heap.size w (wr.setCell ⟨w.heap.size, i, none⟩ (.int .u8 ((b.toNat : Int) + 32)))) := ⟨HB.out.setCell (Nat.le_refl _) _⟩
      have Stay := Aside0.mk stay
      have Turn := Aside0.mk turn
      clear stay turn
      go_wp2
      · rename_i h1 h2
        go_roundg (s.size - (i + 1))
        case measure => have := HI.out; have := HK.out; omega
        case rel => exact ⟨i + 1, rfl, HI.out, congrArg (Value.int .i64) (by omega), bel, Turn.out (by unfold lowB; rw [if_pos (by omega)]) (by omega), still⟩
      · rename_i h1 h2
        go_roundg (s.size - (i + 1))
        case measure => have := HI.out; have := HK.out; omega
        case rel => exact ⟨i + 1, rfl, HI.out, congrArg (Value.int .i64) (by omega), HB, Stay.out (by unfold lowB; rw [if_neg (by omega)]), HF⟩
      · rename_i h1
        go_roundg (s.size - (i + 1))
        case measure => have := HI.out; have := HK.out; omega
        case rel => exact ⟨i + 1, rfl, HI.out, congrArg (Value.int .i64) (by omega), HB, Stay.out (by unfold lowB; rw [if_neg (by omega)]), HF⟩
    · have hback := run_convert_bytes_back (P := Tryd.prog) wr 53 9 5 ⟨w.heap.size, 0, none⟩ cap (s.data.toList.map lowB) Tryd.underlying53 Tryd.underlying5 Tryd.underlying9 (fun j hj => by
        have hj' : j < s.data.size := by simpa using hj
        have h := HC.out j hj'
        have hsi : s.size = s.data.size := rfl
        rw [if_pos (by omega)] at h
        rw [add0, h]
        simp)
      rw [len_low] at hback
      have hn : ¬ (i : Int) < (s.size : Int) := by omega
      clear hk hle hi
      go_wp2
      go_ret
      exact ⟨rfl, HB.out⟩
end Go.Proofs.YtfpbbnllaogclaaDoor.H
