/-
  DERIVED. GIVEN WITH THE SEED: THE CARDS: each row of YtnkjnlmghnomiaaDoorRows.lean that lists a variable, with what it lists TIED to the program's text (the seventh form; the later family's looks); each row that meets fmt, with fmt's text TOLD by the authors' own Lean function (tested against real Go, not proved from fmt's source: count such statements apart). THE CARD IS WHAT COUNTS. Prove the row's statement (the work); the ties are given (YtnkjnlmghnomiaaDoorTie.lean); close each card by the builder's one call (the guide's Derived/Test/ToyasCard.lean, 'card_holds'). Laid BY PROGRAM, IN A SANDBOX (cutbox-door.mjs). By AI agents, Wed Nov 11 2026. No macro, syntax, notation, axiom, sorry.
-/
import Derived.Test.YtnkjnlmghnomiaaDoorRows
import GoSem.ClaimSeven
namespace Go.Proofs.YtnkjnlmghnomiaaDoor
namespace Rows

/-- THE TIED CARD OF 'laws.FnPants'. -/
def fnPantsCard : Claim7 := { stood := { row := fnPantsRow, standIns := [], harness := (true, "4a58bf06b2b551263de14c4858f6691cacf9acc5bc8b52fce499110c9f92f89f"), looks := false }, kinds := [], alts := [], laidByText := true, laidKinds := [.sentinel], laidTests := true, laidLooks := .later }
def FnPantsCardSaid : Prop := Claim7.holds Tryd.pinned (.plain (OpenSpec.ofChange fnPantsSpec)) fnPantsCard

/-- THE TIED CARD OF 'laws.FnPantsMany'. -/
def fnPantsManyCard : Claim7 := { stood := { row := fnPantsManyRow, standIns := [], harness := (true, "4a58bf06b2b551263de14c4858f6691cacf9acc5bc8b52fce499110c9f92f89f"), looks := false }, kinds := [], alts := [], laidByText := true, laidKinds := [.sentinel], laidTests := true, laidLooks := .later }
def FnPantsManyCardSaid : Prop := Claim7.holds Tryd.pinned (.plain (OpenSpec.ofChange fnPantsManySpec)) fnPantsManyCard

/-- THE TIED CARD OF 'laws.FnUniqueApart'. -/
def fnUniqueApartCard : Claim7 := { stood := { row := fnUniqueApartRow, standIns := [], harness := (true, "4a58bf06b2b551263de14c4858f6691cacf9acc5bc8b52fce499110c9f92f89f"), looks := false }, kinds := [], alts := [], laidByText := true, laidKinds := [.data, .data, .data, .sentinel], laidTests := true, laidLooks := .later }
def FnUniqueApartCardSaid : Prop := Claim7.holds Tryd.pinned (.plain (OpenSpec.ofChange fnUniqueApartSpec)) fnUniqueApartCard

/-- THE SECOND FORM's CARD OF 'laws.FnPants'. -/
def fnPantsUptoCard : Claim7 := { stood := { row := fnPantsUptoRow, standIns := [], harness := (true, "4a58bf06b2b551263de14c4858f6691cacf9acc5bc8b52fce499110c9f92f89f"), looks := false }, kinds := [], alts := [], laidByText := true, laidKinds := [.sentinel], laidTests := true, laidLooks := .later }
def FnPantsUptoCardSaid : Prop := Claim7.holds Tryd.pinned (.plain (OpenSpec.upto fnPantsSpec)) fnPantsUptoCard

/-- THE SECOND FORM's CARD OF 'laws.FnPantsMany'. -/
def fnPantsManyUptoCard : Claim7 := { stood := { row := fnPantsManyUptoRow, standIns := [], harness := (true, "4a58bf06b2b551263de14c4858f6691cacf9acc5bc8b52fce499110c9f92f89f"), looks := false }, kinds := [], alts := [], laidByText := true, laidKinds := [.sentinel], laidTests := true, laidLooks := .later }
def FnPantsManyUptoCardSaid : Prop := Claim7.holds Tryd.pinned (.plain (OpenSpec.upto fnPantsManySpec)) fnPantsManyUptoCard

/-- THE SECOND FORM's CARD OF 'laws.FnUniqueApart'. -/
def fnUniqueApartUptoCard : Claim7 := { stood := { row := fnUniqueApartUptoRow, standIns := [], harness := (true, "4a58bf06b2b551263de14c4858f6691cacf9acc5bc8b52fce499110c9f92f89f"), looks := false }, kinds := [], alts := [], laidByText := true, laidKinds := [.data, .data, .data, .sentinel], laidTests := true, laidLooks := .later }
def FnUniqueApartUptoCardSaid : Prop := Claim7.holds Tryd.pinned (.plain (OpenSpec.upto fnUniqueApartSpec)) fnUniqueApartUptoCard
end Rows
end Go.Proofs.YtnkjnlmghnomiaaDoor
