/-
  No cell of these rows narrows 'for every input' (looked for: loops, veiled, ifaces, maps, wideKeys, modest, calm, conditions, laid).
  DERIVED. THE GIVEN ROWS OF THIS SEAT. 5 by the template 'for every input the law returns true; each argument reads behind the call as it read before'; 0 by the template 'total and deterministic' (their statements: YtdndddembndnhaaTotals.lean).
  GIVEN WITH THE SEED: the statements are not yours to turn. If you find one false, say at which input.
  Laid BY PROGRAM, IN A SANDBOX (cutbox-rows.mjs): the forced cells as the released guide's own fill.sh prints them over the translation c0cb7b7cfff78db9… (all of the seat's roots in one cut). By AI agents, Wed Nov 11 2026. No macro, syntax, notation, axiom, sorry.
-/
import Derived.Test.YtdndddembndnhaaChecked
import GoSem.Claim
import GoSem.ClaimJoined
import GoSem.ClaimMapViews
import Derived.JoinedTies
import Derived.KernelRfl
namespace Go.Proofs.Ytdndddembndnhaa
/- THE CELL 'sum', in the pinned program and in every row, IS THE sha256 OF THE DUMP (.gsa) THAT YtdndddembndnhaaProg.lean LOADS. Nothing in Lean hashes anything: it is a label: what it is worth is what the hold of that sum in a sandbox is worth. -/
noncomputable def Try.pinned : Pinned := { name := "ytdndddembndnhaa", sum := "c0cb7b7cfff78db9abc77dd19cc6d5137ea637873f17dea2695305fae85fe85f", checked := Try.checked }
namespace Rows
def none {H : Type} : Left H := { results := [], args := [] }

/-- 'laws.FnGjLastName': WHATEVER THE INPUT: true; the input reads as it did. -/
def fnGjLastNameSpec : ChangeSpec := { name := "fnGjLastName", fn := fun _ => fun
  | [d1, d2] => { results := [.lit (.bool true)], args := [d1, d2] }
  | _ => none }
def fnGjLastNameRow : OpenClaim := { program := "ytdndddembndnhaa", sum := "c0cb7b7cfff78db9abc77dd19cc6d5137ea637873f17dea2695305fae85fe85f", func := "pub-tetrapla/laws.FnGjLastName", spec := "fnGjLastName", apart := false }
def FnGjLastNameSaid : Prop := fnGjLastNameRow.holds Try.pinned (OpenSpec.ofChange fnGjLastNameSpec)

/-- ITS FALSE NEIGHBOUR: 'it returns false'. Refute it at one input. -/
def fnGjLastNameWrong : ChangeSpec := { name := "fnGjLastName", fn := fun _ => fun
  | [d1, d2] => { results := [.lit (.bool false)], args := [d1, d2] }
  | _ => none }
def FnGjLastNameWrongFalsely : Prop := fnGjLastNameRow.holds Try.pinned (OpenSpec.ofChange fnGjLastNameWrong)

/-- 'laws.FnPrUglyAgain': WHATEVER THE INPUT: true; the input reads as it did. -/
def fnPrUglyAgainSpec : ChangeSpec := { name := "fnPrUglyAgain", fn := fun _ => fun
  | [d] => { results := [.lit (.bool true)], args := [d] }
  | _ => none }
def fnPrUglyAgainRow : OpenClaim := { program := "ytdndddembndnhaa", sum := "c0cb7b7cfff78db9abc77dd19cc6d5137ea637873f17dea2695305fae85fe85f", func := "pub-tetrapla/laws.FnPrUglyAgain", spec := "fnPrUglyAgain", recurses := true, apart := false }
def FnPrUglyAgainSaid : Prop := fnPrUglyAgainRow.holds Try.pinned (OpenSpec.ofChange fnPrUglyAgainSpec)

/-- ITS FALSE NEIGHBOUR: 'it returns false'. Refute it at one input. -/
def fnPrUglyAgainWrong : ChangeSpec := { name := "fnPrUglyAgain", fn := fun _ => fun
  | [d] => { results := [.lit (.bool false)], args := [d] }
  | _ => none }
def FnPrUglyAgainWrongFalsely : Prop := fnPrUglyAgainRow.holds Try.pinned (OpenSpec.ofChange fnPrUglyAgainWrong)

/-- 'laws.FnGjValidStringAt': WHATEVER THE INPUT: true; the input reads as it did. -/
def fnGjValidStringAtSpec : ChangeSpec := { name := "fnGjValidStringAt", fn := fun _ => fun
  | [d1, d2] => { results := [.lit (.bool true)], args := [d1, d2] }
  | _ => none }
def fnGjValidStringAtRow : OpenClaim := { program := "ytdndddembndnhaa", sum := "c0cb7b7cfff78db9abc77dd19cc6d5137ea637873f17dea2695305fae85fe85f", func := "pub-tetrapla/laws.FnGjValidStringAt", spec := "fnGjValidStringAt", apart := false }
def FnGjValidStringAtSaid : Prop := fnGjValidStringAtRow.holds Try.pinned (OpenSpec.ofChange fnGjValidStringAtSpec)

/-- ITS FALSE NEIGHBOUR: 'it returns false'. Refute it at one input. -/
def fnGjValidStringAtWrong : ChangeSpec := { name := "fnGjValidStringAt", fn := fun _ => fun
  | [d1, d2] => { results := [.lit (.bool false)], args := [d1, d2] }
  | _ => none }
def FnGjValidStringAtWrongFalsely : Prop := fnGjValidStringAtRow.holds Try.pinned (OpenSpec.ofChange fnGjValidStringAtWrong)

/-- 'laws.FnGjStringAtAny': WHATEVER THE INPUT: true; the input reads as it did. -/
def fnGjStringAtAnySpec : ChangeSpec := { name := "fnGjStringAtAny", fn := fun _ => fun
  | [d1, d2] => { results := [.lit (.bool true)], args := [d1, d2] }
  | _ => none }
def fnGjStringAtAnyRow : OpenClaim := { program := "ytdndddembndnhaa", sum := "c0cb7b7cfff78db9abc77dd19cc6d5137ea637873f17dea2695305fae85fe85f", func := "pub-tetrapla/laws.FnGjStringAtAny", spec := "fnGjStringAtAny", apart := false }
def FnGjStringAtAnySaid : Prop := fnGjStringAtAnyRow.holds Try.pinned (OpenSpec.ofChange fnGjStringAtAnySpec)

/-- ITS FALSE NEIGHBOUR: 'it returns false'. Refute it at one input. -/
def fnGjStringAtAnyWrong : ChangeSpec := { name := "fnGjStringAtAny", fn := fun _ => fun
  | [d1, d2] => { results := [.lit (.bool false)], args := [d1, d2] }
  | _ => none }
def FnGjStringAtAnyWrongFalsely : Prop := fnGjStringAtAnyRow.holds Try.pinned (OpenSpec.ofChange fnGjStringAtAnyWrong)

/-- 'laws.FnPrSpecInside': WHATEVER THE INPUT: true; the input reads as it did. -/
def fnPrSpecInsideSpec : ChangeSpec := { name := "fnPrSpecInside", fn := fun _ => fun
  | [d1, d2] => { results := [.lit (.bool true)], args := [d1, d2] }
  | _ => none }
def fnPrSpecInsideRow : OpenClaim := { program := "ytdndddembndnhaa", sum := "c0cb7b7cfff78db9abc77dd19cc6d5137ea637873f17dea2695305fae85fe85f", func := "pub-tetrapla/laws.FnPrSpecInside", spec := "fnPrSpecInside", apart := false }
def FnPrSpecInsideSaid : Prop := fnPrSpecInsideRow.holds Try.pinned (OpenSpec.ofChange fnPrSpecInsideSpec)

/-- ITS FALSE NEIGHBOUR: 'it returns false'. Refute it at one input. -/
def fnPrSpecInsideWrong : ChangeSpec := { name := "fnPrSpecInside", fn := fun _ => fun
  | [d1, d2] => { results := [.lit (.bool false)], args := [d1, d2] }
  | _ => none }
def FnPrSpecInsideWrongFalsely : Prop := fnPrSpecInsideRow.holds Try.pinned (OpenSpec.ofChange fnPrSpecInsideWrong)

/- THE SECOND FORM. 'bulk': how many values and letters a reading holds, each counted each time it is reached (what is shared counts as often as it is met; a slice's spare places count too). A statement '..UptoSaid' is the law's where the arguments, and the package variables that the reading takes, are together of bulk at most 1048576: NARROWER than '..Said'. Prove '..Said' where nothing that the law and all that it calls make is longer than what came in: it says more and counts as full. Else prove '..UptoSaid'. A law counts once. -/
mutual
def uptoBulk {H : Type} : DataW H → Nat
  | .lit (.string bytes) => bytes.length + 1
  | .lit _ => 1
  | .nil => 1
  | .ptr d => uptoBulk d + 1
  | .slice elems spare => uptoBulkAll elems + uptoBulkAll spare + 1
  | .agg parts => uptoBulkAll parts + 1
  | .iface _ d => uptoBulk d + 1
  | .map entries => uptoBulkEntries entries + 1
  | .held _ => 1
def uptoBulkAll {H : Type} : List (DataW H) → Nat
  | [] => 0
  | d :: r => uptoBulk d + uptoBulkAll r
def uptoBulkEntries {H : Type} : List (Lit × DataW H) → Nat
  | [] => 0
  | x :: r => uptoBulkEntry x + uptoBulkEntries r
def uptoBulkEntry {H : Type} : Lit × DataW H → Nat
  | (.string bytes, d) => bytes.length + uptoBulk d + 1
  | (_, d) => uptoBulk d + 1
 end
def uptoSmall : (H : Type) → List (DataW H) → Bool := fun _ ds => decide (uptoBulkAll ds ≤ 1048576)
def OpenSpec.upto (s : _root_.Go.ChangeSpec) : _root_.Go.OpenSpec := { _root_.Go.OpenSpec.ofChange s with cond := some uptoSmall }

/-- 'laws.FnGjLastName', WHERE WHAT IT READS IS OF BULK AT MOST 1048576: true; the input reads as it did. -/
def fnGjLastNameUptoRow : OpenClaim := { program := "ytdndddembndnhaa", sum := "c0cb7b7cfff78db9abc77dd19cc6d5137ea637873f17dea2695305fae85fe85f", func := "pub-tetrapla/laws.FnGjLastName", spec := "fnGjLastName", apart := false, narrowed := true }
def FnGjLastNameUptoSaid : Prop := fnGjLastNameUptoRow.holds Try.pinned (OpenSpec.upto fnGjLastNameSpec)

/-- 'laws.FnPrUglyAgain', WHERE WHAT IT READS IS OF BULK AT MOST 1048576: true; the input reads as it did. -/
def fnPrUglyAgainUptoRow : OpenClaim := { program := "ytdndddembndnhaa", sum := "c0cb7b7cfff78db9abc77dd19cc6d5137ea637873f17dea2695305fae85fe85f", func := "pub-tetrapla/laws.FnPrUglyAgain", spec := "fnPrUglyAgain", recurses := true, apart := false, narrowed := true }
def FnPrUglyAgainUptoSaid : Prop := fnPrUglyAgainUptoRow.holds Try.pinned (OpenSpec.upto fnPrUglyAgainSpec)

/-- 'laws.FnGjValidStringAt', WHERE WHAT IT READS IS OF BULK AT MOST 1048576: true; the input reads as it did. -/
def fnGjValidStringAtUptoRow : OpenClaim := { program := "ytdndddembndnhaa", sum := "c0cb7b7cfff78db9abc77dd19cc6d5137ea637873f17dea2695305fae85fe85f", func := "pub-tetrapla/laws.FnGjValidStringAt", spec := "fnGjValidStringAt", apart := false, narrowed := true }
def FnGjValidStringAtUptoSaid : Prop := fnGjValidStringAtUptoRow.holds Try.pinned (OpenSpec.upto fnGjValidStringAtSpec)

/-- 'laws.FnGjStringAtAny', WHERE WHAT IT READS IS OF BULK AT MOST 1048576: true; the input reads as it did. -/
def fnGjStringAtAnyUptoRow : OpenClaim := { program := "ytdndddembndnhaa", sum := "c0cb7b7cfff78db9abc77dd19cc6d5137ea637873f17dea2695305fae85fe85f", func := "pub-tetrapla/laws.FnGjStringAtAny", spec := "fnGjStringAtAny", apart := false, narrowed := true }
def FnGjStringAtAnyUptoSaid : Prop := fnGjStringAtAnyUptoRow.holds Try.pinned (OpenSpec.upto fnGjStringAtAnySpec)

/-- 'laws.FnPrSpecInside', WHERE WHAT IT READS IS OF BULK AT MOST 1048576: true; the input reads as it did. -/
def fnPrSpecInsideUptoRow : OpenClaim := { program := "ytdndddembndnhaa", sum := "c0cb7b7cfff78db9abc77dd19cc6d5137ea637873f17dea2695305fae85fe85f", func := "pub-tetrapla/laws.FnPrSpecInside", spec := "fnPrSpecInside", apart := false, narrowed := true }
def FnPrSpecInsideUptoSaid : Prop := fnPrSpecInsideUptoRow.holds Try.pinned (OpenSpec.upto fnPrSpecInsideSpec)

end Rows
end Go.Proofs.Ytdndddembndnhaa
