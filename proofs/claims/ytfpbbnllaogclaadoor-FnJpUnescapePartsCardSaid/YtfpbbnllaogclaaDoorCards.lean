/-
  DERIVED. GIVEN WITH THE SEED: THE CARDS: each row of YtfpbbnllaogclaaDoorRows.lean that lists a variable, with what it lists TIED to the program's text (the seventh form; the later family's looks); each row that meets fmt, with fmt's text TOLD by the authors' own Lean function (tested against real Go, not proved from fmt's source: count such statements apart). THE CARD IS WHAT COUNTS. Prove the row's statement (the work); the ties are given (YtfpbbnllaogclaaDoorTie.lean); close each card by the builder's one call (the guide's Derived/Test/ToyasCard.lean, 'card_holds'). Laid BY PROGRAM, IN A SANDBOX (cutbox-door.mjs). By AI agents, Wed Nov 11 2026. No macro, syntax, notation, axiom, sorry.
-/
import Derived.Test.YtfpbbnllaogclaaDoorRows
import GoSem.ClaimSeven
namespace Go.Proofs.YtfpbbnllaogclaaDoor
namespace Rows

/-- THE TIED CARD OF 'laws.FnMtAhead'. -/
def fnMtAheadCard : Claim7 := { stood := { row := fnMtAheadRow, standIns := [], harness := (true, "ff0114c50c6c339450ca9158ff41d7bf554a52bab8a8982822b0a926ec813c20"), looks := true }, kinds := [], alts := [], laidByText := true, laidKinds := [.data, .pinned], laidTests := true, laidLooks := .later }
def FnMtAheadCardSaid : Prop := Claim7.holds Tryd.pinned (.plain (OpenSpec.ofChange fnMtAheadSpec)) fnMtAheadCard

/-- THE TIED CARD OF 'laws.FnMtDoubled'. -/
def fnMtDoubledCard : Claim7 := { stood := { row := fnMtDoubledRow, standIns := [], harness := (true, "ff0114c50c6c339450ca9158ff41d7bf554a52bab8a8982822b0a926ec813c20"), looks := true }, kinds := [], alts := [], laidByText := true, laidKinds := [.data, .pinned], laidTests := true, laidLooks := .later }
def FnMtDoubledCardSaid : Prop := Claim7.holds Tryd.pinned (.plain (OpenSpec.ofChange fnMtDoubledSpec)) fnMtDoubledCard

/-- THE TIED CARD OF 'laws.FnSjBuild'. -/
def fnSjBuildCard : Claim7 := { stood := { row := fnSjBuildRow, standIns := [], harness := (true, "ff0114c50c6c339450ca9158ff41d7bf554a52bab8a8982822b0a926ec813c20"), looks := true }, kinds := [], alts := [], laidByText := true, laidKinds := [.data, .pinned], laidTests := true, laidLooks := .later }
def FnSjBuildCardSaid : Prop := Claim7.holds Tryd.pinned (.plain (OpenSpec.ofChange fnSjBuildSpec)) fnSjBuildCard

/-- THE TIED CARD OF 'laws.FnGjFalseish'. -/
def fnGjFalseishCard : Claim7 := { stood := { row := fnGjFalseishRow, standIns := [], harness := (true, "ff0114c50c6c339450ca9158ff41d7bf554a52bab8a8982822b0a926ec813c20"), looks := true }, kinds := [], alts := [], laidByText := true, laidKinds := [.data, .data, .data, .sentinel, .sentinel], laidTests := true, laidLooks := .later }
def FnGjFalseishCardSaid : Prop := Claim7.holds Tryd.pinned (.plain (OpenSpec.ofChange fnGjFalseishSpec)) fnGjFalseishCard

/-- THE TIED CARD OF 'laws.FnJpUnescapeParts'. -/
def fnJpUnescapePartsCard : Claim7 := { stood := { row := fnJpUnescapePartsRow, standIns := [], harness := (true, "ff0114c50c6c339450ca9158ff41d7bf554a52bab8a8982822b0a926ec813c20"), looks := true }, kinds := [], alts := [], laidByText := true, laidKinds := [.data, .data, .sentinel], laidTests := true, laidLooks := .later }
def FnJpUnescapePartsCardSaid : Prop := Claim7.holds Tryd.pinned (.plain (OpenSpec.ofChange fnJpUnescapePartsSpec)) fnJpUnescapePartsCard

/-- THE TIED CARD OF 'laws.FnFjCheckKey'. -/
def fnFjCheckKeyCard : Claim7 := { stood := { row := fnFjCheckKeyRow, standIns := [], harness := (true, "ff0114c50c6c339450ca9158ff41d7bf554a52bab8a8982822b0a926ec813c20"), looks := true }, kinds := [], alts := [], laidByText := true, laidKinds := [.data, .data, .data, .sentinel, .sentinel], laidTests := true, laidLooks := .later }
def FnFjCheckKeyCardSaid : Prop := Claim7.holds Tryd.pinned (.plain (OpenSpec.ofChange fnFjCheckKeySpec)) fnFjCheckKeyCard

/-- THE SECOND FORM's CARD OF 'laws.FnMtAhead'. -/
def fnMtAheadUptoCard : Claim7 := { stood := { row := fnMtAheadUptoRow, standIns := [], harness := (true, "ff0114c50c6c339450ca9158ff41d7bf554a52bab8a8982822b0a926ec813c20"), looks := true }, kinds := [], alts := [], laidByText := true, laidKinds := [.data, .pinned], laidTests := true, laidLooks := .later }
def FnMtAheadUptoCardSaid : Prop := Claim7.holds Tryd.pinned (.plain (OpenSpec.upto fnMtAheadSpec)) fnMtAheadUptoCard

/-- THE SECOND FORM's CARD OF 'laws.FnMtDoubled'. -/
def fnMtDoubledUptoCard : Claim7 := { stood := { row := fnMtDoubledUptoRow, standIns := [], harness := (true, "ff0114c50c6c339450ca9158ff41d7bf554a52bab8a8982822b0a926ec813c20"), looks := true }, kinds := [], alts := [], laidByText := true, laidKinds := [.data, .pinned], laidTests := true, laidLooks := .later }
def FnMtDoubledUptoCardSaid : Prop := Claim7.holds Tryd.pinned (.plain (OpenSpec.upto fnMtDoubledSpec)) fnMtDoubledUptoCard

/-- THE SECOND FORM's CARD OF 'laws.FnSjBuild'. -/
def fnSjBuildUptoCard : Claim7 := { stood := { row := fnSjBuildUptoRow, standIns := [], harness := (true, "ff0114c50c6c339450ca9158ff41d7bf554a52bab8a8982822b0a926ec813c20"), looks := true }, kinds := [], alts := [], laidByText := true, laidKinds := [.data, .pinned], laidTests := true, laidLooks := .later }
def FnSjBuildUptoCardSaid : Prop := Claim7.holds Tryd.pinned (.plain (OpenSpec.upto fnSjBuildSpec)) fnSjBuildUptoCard

/-- THE SECOND FORM's CARD OF 'laws.FnGjFalseish'. -/
def fnGjFalseishUptoCard : Claim7 := { stood := { row := fnGjFalseishUptoRow, standIns := [], harness := (true, "ff0114c50c6c339450ca9158ff41d7bf554a52bab8a8982822b0a926ec813c20"), looks := true }, kinds := [], alts := [], laidByText := true, laidKinds := [.data, .data, .data, .sentinel, .sentinel], laidTests := true, laidLooks := .later }
def FnGjFalseishUptoCardSaid : Prop := Claim7.holds Tryd.pinned (.plain (OpenSpec.upto fnGjFalseishSpec)) fnGjFalseishUptoCard

/-- THE SECOND FORM's CARD OF 'laws.FnJpUnescapeParts'. -/
def fnJpUnescapePartsUptoCard : Claim7 := { stood := { row := fnJpUnescapePartsUptoRow, standIns := [], harness := (true, "ff0114c50c6c339450ca9158ff41d7bf554a52bab8a8982822b0a926ec813c20"), looks := true }, kinds := [], alts := [], laidByText := true, laidKinds := [.data, .data, .sentinel], laidTests := true, laidLooks := .later }
def FnJpUnescapePartsUptoCardSaid : Prop := Claim7.holds Tryd.pinned (.plain (OpenSpec.upto fnJpUnescapePartsSpec)) fnJpUnescapePartsUptoCard

/-- THE SECOND FORM's CARD OF 'laws.FnFjCheckKey'. -/
def fnFjCheckKeyUptoCard : Claim7 := { stood := { row := fnFjCheckKeyUptoRow, standIns := [], harness := (true, "ff0114c50c6c339450ca9158ff41d7bf554a52bab8a8982822b0a926ec813c20"), looks := true }, kinds := [], alts := [], laidByText := true, laidKinds := [.data, .data, .data, .sentinel, .sentinel], laidTests := true, laidLooks := .later }
def FnFjCheckKeyUptoCardSaid : Prop := Claim7.holds Tryd.pinned (.plain (OpenSpec.upto fnFjCheckKeySpec)) fnFjCheckKeyUptoCard
end Rows
end Go.Proofs.YtfpbbnllaogclaaDoor
