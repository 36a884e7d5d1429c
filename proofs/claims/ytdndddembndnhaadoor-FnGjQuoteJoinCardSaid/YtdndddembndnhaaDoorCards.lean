/-
  DERIVED. GIVEN WITH THE SEED: THE CARDS: each row of YtdndddembndnhaaDoorRows.lean that lists a variable, with what it lists TIED to the program's text (the seventh form; the later family's looks); each row that meets fmt, with fmt's text TOLD by the authors' own Lean function (tested against real Go, not proved from fmt's source: count such statements apart). THE CARD IS WHAT COUNTS. Prove the row's statement (the work); the ties are given (YtdndddembndnhaaDoorTie.lean); close each card by the builder's one call (the guide's Derived/Test/ToyasCard.lean, 'card_holds'). Laid BY PROGRAM, IN A SANDBOX (cutbox-door.mjs). By AI agents, Wed Nov 11 2026. No macro, syntax, notation, axiom, sorry.
-/
import Derived.Test.YtdndddembndnhaaDoorRows
import GoSem.ClaimSeven
namespace Go.Proofs.YtdndddembndnhaaDoor
namespace Rows

/-- THE TIED CARD OF 'laws.FnGjQuoteJoin'. -/
def fnGjQuoteJoinCard : Claim7 := { stood := { row := fnGjQuoteJoinRow, standIns := [], harness := (true, "52bf09f90c2918b916ca694b763f95c8daa73383d5a5617397b72eeb07c0bf08"), looks := false }, kinds := [], alts := [], laidByText := true, laidKinds := [.data, .data, .pinned], laidTests := true, laidLooks := .later }
def FnGjQuoteJoinCardSaid : Prop := Claim7.holds Tryd.pinned (.plain (OpenSpec.ofChange fnGjQuoteJoinSpec)) fnGjQuoteJoinCard

/-- THE SECOND FORM's CARD OF 'laws.FnGjQuoteJoin'. -/
def fnGjQuoteJoinUptoCard : Claim7 := { stood := { row := fnGjQuoteJoinUptoRow, standIns := [], harness := (true, "52bf09f90c2918b916ca694b763f95c8daa73383d5a5617397b72eeb07c0bf08"), looks := false }, kinds := [], alts := [], laidByText := true, laidKinds := [.data, .data, .pinned], laidTests := true, laidLooks := .later }
def FnGjQuoteJoinUptoCardSaid : Prop := Claim7.holds Tryd.pinned (.plain (OpenSpec.upto fnGjQuoteJoinSpec)) fnGjQuoteJoinUptoCard
end Rows
end Go.Proofs.YtdndddembndnhaaDoor
