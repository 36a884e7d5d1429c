-- Written by a program of this session out of the translation (a changed copy of the kit's print); Lean checks it.
import Derived.Test.YtfpbbnllaogclaaDoorProg
import Derived.Below
import Derived.Deep.Draws
import Derived.Deep.AppendLies
import Derived.Maps.AppendAt
import Derived.OwnWalk
import Derived.Laws.BytesArg
import Derived.Laws.MakeOwn
import Derived.Laws.OwnMore
import Derived.Deep.OwnRows
import Derived.Tactics
import Derived.Lib.ConvBytes
import Derived.Laws.Slices
import Derived.WalkKit
import Derived.KernelRfl
import Derived.RowKit3
import Derived.Deep.LoopGhost
import Derived.Deep.QuietTactic
import Derived.BigQuiet
import Derived.WideLaws
import Derived.Deep.DeepCutAuto
import Derived.Deep.CutBlock
import Derived.Deep.RegionHeld3
import Derived.Laws.Rows
import Derived.Lib.AppendStr
import Derived.ArgAppend
import Derived.Laws.IdiomCopy
import Derived.OrdersHeld
import Derived.Laws.BitsLemmas
import Derived.RowKit
import Derived.Test.YtfpbbnllaogclaaDoorWWords
import Derived.Test.YtfpbbnllaogclaaDoorWLast
import Derived.Test.YtfpbbnllaogclaaDoorWTab
import Derived.Test.YtfpbbnllaogclaaDoorWFour
import Derived.Test.YtfpbbnllaogclaaDoorWQPut
import Derived.Test.YtfpbbnllaogclaaDoorWApart
import Derived.Test.YtfpbbnllaogclaaDoorWArr
import Derived.Test.YtfpbbnllaogclaaDoorWZeros
import Derived.Test.YtfpbbnllaogclaaDoorWFoot
import Derived.Test.YtfpbbnllaogclaaDoorWKept
import Derived.Test.YtfpbbnllaogclaaDoorWShare
import Derived.Test.YtfpbbnllaogclaaDoorWN
import Derived.Test.YtfpbbnllaogclaaDoorWFootNe
import Derived.Test.YtfpbbnllaogclaaDoorWAt
import Derived.Test.YtfpbbnllaogclaaDoorWEqStruct
import Derived.Test.YtfpbbnllaogclaaDoorWRepsOne
import Derived.Test.YtfpbbnllaogclaaDoorWInv
import Derived.Test.YtfpbbnllaogclaaDoorWInvWords
import Derived.Test.YtfpbbnllaogclaaDoorWGuard
import Derived.Test.YtfpbbnllaogclaaDoorWNEv
import Derived.Test.YtfpbbnllaogclaaDoorWMore
import Derived.Test.YtfpbbnllaogclaaDoorWMine
namespace Go.Proofs.YtfpbbnllaogclaaDoor.PA
open Go.RowKit Go.Proofs.YtfpbbnllaogclaaDoorW.PrintWords Go.Proofs.YtfpbbnllaogclaaDoorW.PrintLast Go.Proofs.YtfpbbnllaogclaaDoorW.PrintMore
attribute [local go_sem] max2_int min2_int max_two min_two max_three min_three max_four min_four   -- for this text's walks alone
set_option linter.unusedVariables false
set_option linter.unusedSimpArgs false



def errW : Option Int → Value
  | none => .nilIface
  | some c => .iface 0 (.int .i64 c)
theorem errW_none : errW none = .nilIface := rfl
theorem errW_some (c : Int) : errW (some c) = .iface 0 (.int .i64 c) := rfl

theorem info3 : (Tryd.prog.info? 3).map (fun i => (i.zero, i.size, i.bytes)) = some (some (.int .i64 0), 1, 8) := by kernel_rfl
theorem info4 : (Tryd.prog.info? 4).map (fun i => (i.zero, i.size, i.bytes)) = some (some (.bool false), 1, 1) := by kernel_rfl
theorem info5 : (Tryd.prog.info? 5).map (fun i => (i.zero, i.size, i.bytes)) = some (some (.int .u8 0), 1, 1) := by kernel_rfl
theorem info114 : (Tryd.prog.info? 114).map (fun i => (i.zero, i.size, i.bytes)) = some (some (.agg #[(.bool false), (.bool false), (.int .i64 0)]), 3, 16) := by kernel_rfl
-- the values' own types
/-! #### struct type 159 -/
structure S159 where
  f0 : Int
  f1 : Int
def z159 : S159 := ⟨(0 : Int), (0 : Int)⟩
def k159 : Kd S159 := Kd.iso (Kd.pair (Kd.int .u8) (Kd.int .u8)) (fun x : S159 => (x.f0, x.f1))
theorem k159_open {w : World} {x : S159} {cs : List Value} (h : k159.K w x cs) : cs = [.int .u8 x.f0, .int .u8 x.f1] := by
  obtain ⟨_, _, rfl, rfl, rfl⟩ := h
  exact rfl
theorem k159_openM {w : World} {base : Nat} {ok : Nat → Prop} {x : S159} {cs : List Value} (h : k159.M w base ok x cs) : cs = [.int .u8 x.f0, .int .u8 x.f1] := by
  obtain ⟨_, _, rfl, rfl, rfl⟩ := h
  exact rfl
theorem k159_mk (w : World) (x : S159)  : k159.K w x [.int .u8 x.f0, .int .u8 x.f1] := ⟨[.int .u8 x.f0], [.int .u8 x.f1], rfl, rfl, rfl⟩
theorem k159_mkM (w : World) (base : Nat) (ok : Nat → Prop) (x : S159)  : k159.M w base ok x [.int .u8 x.f0, .int .u8 x.f1] := ⟨[.int .u8 x.f0], [.int .u8 x.f1], rfl, rfl, rfl⟩
def rd_T159 (xs : List S159) (i : Int) : S159 := xs.getD i.toNat z159
theorem at_T159 {w : World} {A : Option Addr} {n : Nat} {xs : List S159} (h : Kd.C k159 w A n xs) (i : Int) (h0 : 0 ≤ i) (h1 : i < n) : ∃ ad , A = some ad ∧ w.cell? (ad.add (i.toNat * 2)) = some (.int .u8 (rd_T159 xs i).f0) ∧ w.cell? ⟨(ad.add (i.toNat * 2)).block, (ad.add (i.toNat * 2)).off + 1, none⟩ = some (.int .u8 (rd_T159 xs i).f1) := by
  obtain ⟨ad, c, e, _, hK, hc0⟩ := Kd.C_get h z159 i h0 h1
  have hc : ∀ j u, c[j]? = some u → w.cell? (ad.add (i.toNat * 2 + j)) = some u := hc0
  obtain rfl := k159_open hK
  exact ⟨ad, e, hc 0 _ rfl, by rw [← add_field _ _ 1 (by omega)]; exact hc 1 _ rfl⟩

/-! #### struct type 114 -/
structure S114 where
  f0 : Bool
  f1 : Bool
  f2 : Int
def z114 : S114 := ⟨false, false, (0 : Int)⟩
def k114 : Kd S114 := Kd.iso (Kd.pair Kd.bool (Kd.pair Kd.bool (Kd.int .i64))) (fun x : S114 => (x.f0, x.f1, x.f2))
theorem k114_open {w : World} {x : S114} {cs : List Value} (h : k114.K w x cs) : cs = [.bool x.f0, .bool x.f1, .int .i64 x.f2] := by
  obtain ⟨_, _, rfl, rfl, ⟨_, _, rfl, rfl, rfl⟩⟩ := h
  exact rfl
theorem k114_openM {w : World} {base : Nat} {ok : Nat → Prop} {x : S114} {cs : List Value} (h : k114.M w base ok x cs) : cs = [.bool x.f0, .bool x.f1, .int .i64 x.f2] := by
  obtain ⟨_, _, rfl, rfl, ⟨_, _, rfl, rfl, rfl⟩⟩ := h
  exact rfl
theorem k114_mk (w : World) (x : S114)  : k114.K w x [.bool x.f0, .bool x.f1, .int .i64 x.f2] := ⟨[.bool x.f0], [.bool x.f1, .int .i64 x.f2], rfl, rfl, ⟨[.bool x.f1], [.int .i64 x.f2], rfl, rfl, rfl⟩⟩
theorem k114_mkM (w : World) (base : Nat) (ok : Nat → Prop) (x : S114)  : k114.M w base ok x [.bool x.f0, .bool x.f1, .int .i64 x.f2] := ⟨[.bool x.f0], [.bool x.f1, .int .i64 x.f2], rfl, rfl, ⟨[.bool x.f1], [.int .i64 x.f2], rfl, rfl, rfl⟩⟩
def rd_T114 (xs : List S114) (i : Int) : S114 := xs.getD i.toNat z114
theorem at_T114 {w : World} {A : Option Addr} {n : Nat} {xs : List S114} (h : Kd.C k114 w A n xs) (i : Int) (h0 : 0 ≤ i) (h1 : i < n) : ∃ ad , A = some ad ∧ w.cell? (ad.add (i.toNat * 3)) = some (.bool (rd_T114 xs i).f0) ∧ w.cell? ⟨(ad.add (i.toNat * 3)).block, (ad.add (i.toNat * 3)).off + 1, none⟩ = some (.bool (rd_T114 xs i).f1) ∧ w.cell? ⟨(ad.add (i.toNat * 3)).block, (ad.add (i.toNat * 3)).off + 2, none⟩ = some (.int .i64 (rd_T114 xs i).f2) := by
  obtain ⟨ad, c, e, _, hK, hc0⟩ := Kd.C_get h z114 i h0 h1
  have hc : ∀ j u, c[j]? = some u → w.cell? (ad.add (i.toNat * 3 + j)) = some u := hc0
  obtain rfl := k114_open hK
  exact ⟨ad, e, hc 0 _ rfl, by rw [← add_field _ _ 1 (by omega)]; exact hc 1 _ rfl, by rw [← add_field _ _ 2 (by omega)]; exact hc 2 _ rfl⟩

end Go.Proofs.YtfpbbnllaogclaaDoor.PA
