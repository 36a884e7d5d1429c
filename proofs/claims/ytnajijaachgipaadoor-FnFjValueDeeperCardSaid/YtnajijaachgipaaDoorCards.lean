/-
  DERIVED. GIVEN WITH THE SEED: THE CARDS: each row of YtnajijaachgipaaDoorRows.lean that lists a variable, with what it lists TIED to the program's text (the seventh form; the later family's looks); each row that meets fmt, with fmt's text TOLD by the authors' own Lean function (tested against real Go, not proved from fmt's source: count such statements apart). THE CARD IS WHAT COUNTS. Prove the row's statement (the work); the ties are given (YtnajijaachgipaaDoorTie.lean); close each card by the builder's one call (the guide's Derived/Test/ToyasCard.lean, 'card_holds'). Laid BY PROGRAM, IN A SANDBOX (cutbox-door.mjs). By AI agents, Wed Nov 11 2026. No macro, syntax, notation, axiom, sorry.
-/
import Derived.Test.YtnajijaachgipaaDoorRows
import GoSem.ClaimSeven
namespace Go.Proofs.YtnajijaachgipaaDoor
namespace Rows

/-- THE TIED CARD OF 'laws.FnFjNumberInt'. -/
def fnFjNumberIntCard : Claim7 := { stood := { row := fnFjNumberIntRow, standIns := [], harness := (true, "e11590441152daee1cb581f096299dfd56485287b790c3bb9e7b72cfd2510a0e"), looks := true }, kinds := [], alts := [], laidByText := true, laidKinds := [.data, .data, .data, .sentinel, .sentinel], laidTests := true, laidLooks := .later }
def FnFjNumberIntCardSaid : Prop := Claim7.holds Tryd.pinned (.plain (OpenSpec.ofChange fnFjNumberIntSpec)) fnFjNumberIntCard

/-- THE TIED CARD OF 'laws.FnFjReprintAll'. -/
def fnFjReprintAllCard : Claim7 := { stood := { row := fnFjReprintAllRow, standIns := [], harness := (true, "e11590441152daee1cb581f096299dfd56485287b790c3bb9e7b72cfd2510a0e"), looks := true }, kinds := [], alts := [], laidByText := true, laidKinds := [.data, .pinned, .pinned, .pinned, .pinned, .pinned, .pinned], laidTests := true, laidLooks := .later }
def FnFjReprintAllCardSaid : Prop := Claim7.holds Tryd.pinned (.plain (OpenSpec.ofChange fnFjReprintAllSpec)) fnFjReprintAllCard

/-- THE TIED CARD OF 'laws.FnFjObjectReprint'. -/
def fnFjObjectReprintCard : Claim7 := { stood := { row := fnFjObjectReprintRow, standIns := [], harness := (true, "e11590441152daee1cb581f096299dfd56485287b790c3bb9e7b72cfd2510a0e"), looks := true }, kinds := [], alts := [], laidByText := true, laidKinds := [.data, .pinned, .pinned, .pinned, .pinned, .pinned, .pinned], laidTests := true, laidLooks := .later }
def FnFjObjectReprintCardSaid : Prop := Claim7.holds Tryd.pinned (.plain (OpenSpec.ofChange fnFjObjectReprintSpec)) fnFjObjectReprintCard

/-- THE TIED CARD OF 'laws.FnFjValueDeeper'. -/
def fnFjValueDeeperCard : Claim7 := { stood := { row := fnFjValueDeeperRow, standIns := [], harness := (true, "e11590441152daee1cb581f096299dfd56485287b790c3bb9e7b72cfd2510a0e"), looks := true }, kinds := [], alts := [], laidByText := true, laidKinds := [.data, .data, .data, .data, .sentinel, .sentinel, .pinned, .pinned, .pinned, .pinned, .pinned, .pinned], laidTests := true, laidLooks := .later }
def FnFjValueDeeperCardSaid : Prop := Claim7.holds Tryd.pinned (.plain (OpenSpec.ofChange fnFjValueDeeperSpec)) fnFjValueDeeperCard

/-- THE TIED CARD OF 'laws.FnFjParseOne'. -/
def fnFjParseOneCard : Claim7 := { stood := { row := fnFjParseOneRow, standIns := [], harness := (true, "e11590441152daee1cb581f096299dfd56485287b790c3bb9e7b72cfd2510a0e"), looks := true }, kinds := [], alts := [], laidByText := true, laidKinds := [.data, .data, .data, .data, .sentinel, .sentinel, .pinned, .pinned, .pinned, .pinned, .pinned, .pinned], laidTests := true, laidLooks := .later }
def FnFjParseOneCardSaid : Prop := Claim7.holds Tryd.pinned (.plain (OpenSpec.ofChange fnFjParseOneSpec)) fnFjParseOneCard

/-- THE SECOND FORM's CARD OF 'laws.FnFjNumberInt'. -/
def fnFjNumberIntUptoCard : Claim7 := { stood := { row := fnFjNumberIntUptoRow, standIns := [], harness := (true, "e11590441152daee1cb581f096299dfd56485287b790c3bb9e7b72cfd2510a0e"), looks := true }, kinds := [], alts := [], laidByText := true, laidKinds := [.data, .data, .data, .sentinel, .sentinel], laidTests := true, laidLooks := .later }
def FnFjNumberIntUptoCardSaid : Prop := Claim7.holds Tryd.pinned (.plain (OpenSpec.upto fnFjNumberIntSpec)) fnFjNumberIntUptoCard

/-- THE SECOND FORM's CARD OF 'laws.FnFjReprintAll'. -/
def fnFjReprintAllUptoCard : Claim7 := { stood := { row := fnFjReprintAllUptoRow, standIns := [], harness := (true, "e11590441152daee1cb581f096299dfd56485287b790c3bb9e7b72cfd2510a0e"), looks := true }, kinds := [], alts := [], laidByText := true, laidKinds := [.data, .pinned, .pinned, .pinned, .pinned, .pinned, .pinned], laidTests := true, laidLooks := .later }
def FnFjReprintAllUptoCardSaid : Prop := Claim7.holds Tryd.pinned (.plain (OpenSpec.upto fnFjReprintAllSpec)) fnFjReprintAllUptoCard

/-- THE SECOND FORM's CARD OF 'laws.FnFjObjectReprint'. -/
def fnFjObjectReprintUptoCard : Claim7 := { stood := { row := fnFjObjectReprintUptoRow, standIns := [], harness := (true, "e11590441152daee1cb581f096299dfd56485287b790c3bb9e7b72cfd2510a0e"), looks := true }, kinds := [], alts := [], laidByText := true, laidKinds := [.data, .pinned, .pinned, .pinned, .pinned, .pinned, .pinned], laidTests := true, laidLooks := .later }
def FnFjObjectReprintUptoCardSaid : Prop := Claim7.holds Tryd.pinned (.plain (OpenSpec.upto fnFjObjectReprintSpec)) fnFjObjectReprintUptoCard

/-- THE SECOND FORM's CARD OF 'laws.FnFjValueDeeper'. -/
def fnFjValueDeeperUptoCard : Claim7 := { stood := { row := fnFjValueDeeperUptoRow, standIns := [], harness := (true, "e11590441152daee1cb581f096299dfd56485287b790c3bb9e7b72cfd2510a0e"), looks := true }, kinds := [], alts := [], laidByText := true, laidKinds := [.data, .data, .data, .data, .sentinel, .sentinel, .pinned, .pinned, .pinned, .pinned, .pinned, .pinned], laidTests := true, laidLooks := .later }
def FnFjValueDeeperUptoCardSaid : Prop := Claim7.holds Tryd.pinned (.plain (OpenSpec.upto fnFjValueDeeperSpec)) fnFjValueDeeperUptoCard

/-- THE SECOND FORM's CARD OF 'laws.FnFjParseOne'. -/
def fnFjParseOneUptoCard : Claim7 := { stood := { row := fnFjParseOneUptoRow, standIns := [], harness := (true, "e11590441152daee1cb581f096299dfd56485287b790c3bb9e7b72cfd2510a0e"), looks := true }, kinds := [], alts := [], laidByText := true, laidKinds := [.data, .data, .data, .data, .sentinel, .sentinel, .pinned, .pinned, .pinned, .pinned, .pinned, .pinned], laidTests := true, laidLooks := .later }
def FnFjParseOneUptoCardSaid : Prop := Claim7.holds Tryd.pinned (.plain (OpenSpec.upto fnFjParseOneSpec)) fnFjParseOneUptoCard
end Rows
end Go.Proofs.YtnajijaachgipaaDoor
