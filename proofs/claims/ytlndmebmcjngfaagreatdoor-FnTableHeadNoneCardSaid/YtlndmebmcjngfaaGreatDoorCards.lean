/-
  DERIVED. GIVEN WITH THE SEED: THE CARDS: each row of YtlndmebmcjngfaaGreatDoorRows.lean that lists a variable, with what it lists TIED to the program's text (the seventh form; the later family's looks); each row that meets fmt, with fmt's text TOLD by the authors' own Lean function (tested against real Go, not proved from fmt's source: count such statements apart). THE CARD IS WHAT COUNTS. Prove the row's statement (the work); the ties are given (YtlndmebmcjngfaaGreatDoorTie.lean); close each card by the builder's one call (the guide's Derived/Test/ToyasCard.lean, 'card_holds'). Laid BY PROGRAM, IN A SANDBOX (cutbox-door.mjs). By AI agents, Wed Nov 11 2026. No macro, syntax, notation, axiom, sorry.
-/
import Derived.Test.YtlndmebmcjngfaaGreatDoorRows
import GoSem.ClaimSeven
namespace Go.Proofs.YtlndmebmcjngfaaGreatDoor
namespace Rows

/-- THE TIED CARD OF 'laws.FnTableHeadNone'. -/
def fnTableHeadNoneCard : Claim7 := { stood := { row := fnTableHeadNoneRow, standIns := [], harness := (true, "9f8dbb51ac3ec4402516129ff6ff7564d14af5066e45196b1d4fcef92dad267f"), looks := false }, kinds := [], alts := [], laidByText := true, laidKinds := [.data, .data, .data, .sentinel], laidTests := true, laidLooks := .later }
def FnTableHeadNoneCardSaid : Prop := Claim7.holds Tryz.pinned (.plain (OpenSpec.ofChange fnTableHeadNoneSpec)) fnTableHeadNoneCard

/-- THE TIED CARD OF 'laws.FnDefinitionNone'. -/
def fnDefinitionNoneCard : Claim7 := { stood := { row := fnDefinitionNoneRow, standIns := [], harness := (true, "9f8dbb51ac3ec4402516129ff6ff7564d14af5066e45196b1d4fcef92dad267f"), looks := false }, kinds := [], alts := [], laidByText := true, laidKinds := [.data, .data, .data, .sentinel], laidTests := true, laidLooks := .later }
def FnDefinitionNoneCardSaid : Prop := Claim7.holds Tryz.pinned (.plain (OpenSpec.ofChange fnDefinitionNoneSpec)) fnDefinitionNoneCard

/-- THE SECOND FORM's CARD OF 'laws.FnTableHeadNone'. -/
def fnTableHeadNoneUptoCard : Claim7 := { stood := { row := fnTableHeadNoneUptoRow, standIns := [], harness := (true, "9f8dbb51ac3ec4402516129ff6ff7564d14af5066e45196b1d4fcef92dad267f"), looks := false }, kinds := [], alts := [], laidByText := true, laidKinds := [.data, .data, .data, .sentinel], laidTests := true, laidLooks := .later }
def FnTableHeadNoneUptoCardSaid : Prop := Claim7.holds Tryz.pinned (.plain (OpenSpec.upto fnTableHeadNoneSpec)) fnTableHeadNoneUptoCard

/-- THE SECOND FORM's CARD OF 'laws.FnDefinitionNone'. -/
def fnDefinitionNoneUptoCard : Claim7 := { stood := { row := fnDefinitionNoneUptoRow, standIns := [], harness := (true, "9f8dbb51ac3ec4402516129ff6ff7564d14af5066e45196b1d4fcef92dad267f"), looks := false }, kinds := [], alts := [], laidByText := true, laidKinds := [.data, .data, .data, .sentinel], laidTests := true, laidLooks := .later }
def FnDefinitionNoneUptoCardSaid : Prop := Claim7.holds Tryz.pinned (.plain (OpenSpec.upto fnDefinitionNoneSpec)) fnDefinitionNoneUptoCard
end Rows
end Go.Proofs.YtlndmebmcjngfaaGreatDoor
