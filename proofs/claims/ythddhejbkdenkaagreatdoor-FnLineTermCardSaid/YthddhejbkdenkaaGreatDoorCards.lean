/-
  DERIVED. GIVEN WITH THE SEED: THE CARDS: each row of YthddhejbkdenkaaGreatDoorRows.lean that lists a variable, with what it lists TIED to the program's text (the seventh form; the later family's looks); each row that meets fmt, with fmt's text TOLD by the authors' own Lean function (tested against real Go, not proved from fmt's source: count such statements apart). THE CARD IS WHAT COUNTS. Prove the row's statement (the work); the ties are given (YthddhejbkdenkaaGreatDoorTie.lean); close each card by the builder's one call (the guide's Derived/Test/ToyasCard.lean, 'card_holds'). Laid BY PROGRAM, IN A SANDBOX (cutbox-door.mjs). By AI agents, Wed Nov 11 2026. No macro, syntax, notation, axiom, sorry.
-/
import Derived.Test.YthddhejbkdenkaaGreatDoorRows
import GoSem.ClaimSeven
namespace Go.Proofs.YthddhejbkdenkaaGreatDoor
namespace Rows

/-- THE TIED CARD OF 'laws.FnLineBullet'. -/
def fnLineBulletCard : Claim7 := { stood := { row := fnLineBulletRow, standIns := [], harness := (true, "0d1ebca62721e6c09120a89274ee0940431202c97260859b66206d7ca6240d98"), looks := false }, kinds := [], alts := [], laidByText := true, laidKinds := [.data, .data, .data, .sentinel], laidTests := true, laidLooks := .later }
def FnLineBulletCardSaid : Prop := Claim7.holds Tryz.pinned (.plain (OpenSpec.ofChange fnLineBulletSpec)) fnLineBulletCard

/-- THE TIED CARD OF 'laws.FnLineEmpty'. -/
def fnLineEmptyCard : Claim7 := { stood := { row := fnLineEmptyRow, standIns := [], harness := (true, "0d1ebca62721e6c09120a89274ee0940431202c97260859b66206d7ca6240d98"), looks := false }, kinds := [], alts := [], laidByText := true, laidKinds := [.data, .data, .data, .sentinel], laidTests := true, laidLooks := .later }
def FnLineEmptyCardSaid : Prop := Claim7.holds Tryz.pinned (.plain (OpenSpec.ofChange fnLineEmptySpec)) fnLineEmptyCard

/-- THE TIED CARD OF 'laws.FnLineHeading'. -/
def fnLineHeadingCard : Claim7 := { stood := { row := fnLineHeadingRow, standIns := [], harness := (true, "0d1ebca62721e6c09120a89274ee0940431202c97260859b66206d7ca6240d98"), looks := false }, kinds := [], alts := [], laidByText := true, laidKinds := [.data, .data, .data, .sentinel], laidTests := true, laidLooks := .later }
def FnLineHeadingCardSaid : Prop := Claim7.holds Tryz.pinned (.plain (OpenSpec.ofChange fnLineHeadingSpec)) fnLineHeadingCard

/-- THE TIED CARD OF 'laws.FnLineQuote'. -/
def fnLineQuoteCard : Claim7 := { stood := { row := fnLineQuoteRow, standIns := [], harness := (true, "0d1ebca62721e6c09120a89274ee0940431202c97260859b66206d7ca6240d98"), looks := false }, kinds := [], alts := [], laidByText := true, laidKinds := [.data, .data, .data, .sentinel], laidTests := true, laidLooks := .later }
def FnLineQuoteCardSaid : Prop := Claim7.holds Tryz.pinned (.plain (OpenSpec.ofChange fnLineQuoteSpec)) fnLineQuoteCard

/-- THE TIED CARD OF 'laws.FnLineTerm'. -/
def fnLineTermCard : Claim7 := { stood := { row := fnLineTermRow, standIns := [], harness := (true, "0d1ebca62721e6c09120a89274ee0940431202c97260859b66206d7ca6240d98"), looks := false }, kinds := [], alts := [], laidByText := true, laidKinds := [.data, .data, .data, .sentinel], laidTests := true, laidLooks := .later }
def FnLineTermCardSaid : Prop := Claim7.holds Tryz.pinned (.plain (OpenSpec.ofChange fnLineTermSpec)) fnLineTermCard

/-- THE SECOND FORM's CARD OF 'laws.FnLineBullet'. -/
def fnLineBulletUptoCard : Claim7 := { stood := { row := fnLineBulletUptoRow, standIns := [], harness := (true, "0d1ebca62721e6c09120a89274ee0940431202c97260859b66206d7ca6240d98"), looks := false }, kinds := [], alts := [], laidByText := true, laidKinds := [.data, .data, .data, .sentinel], laidTests := true, laidLooks := .later }
def FnLineBulletUptoCardSaid : Prop := Claim7.holds Tryz.pinned (.plain (OpenSpec.upto fnLineBulletSpec)) fnLineBulletUptoCard

/-- THE SECOND FORM's CARD OF 'laws.FnLineEmpty'. -/
def fnLineEmptyUptoCard : Claim7 := { stood := { row := fnLineEmptyUptoRow, standIns := [], harness := (true, "0d1ebca62721e6c09120a89274ee0940431202c97260859b66206d7ca6240d98"), looks := false }, kinds := [], alts := [], laidByText := true, laidKinds := [.data, .data, .data, .sentinel], laidTests := true, laidLooks := .later }
def FnLineEmptyUptoCardSaid : Prop := Claim7.holds Tryz.pinned (.plain (OpenSpec.upto fnLineEmptySpec)) fnLineEmptyUptoCard

/-- THE SECOND FORM's CARD OF 'laws.FnLineHeading'. -/
def fnLineHeadingUptoCard : Claim7 := { stood := { row := fnLineHeadingUptoRow, standIns := [], harness := (true, "0d1ebca62721e6c09120a89274ee0940431202c97260859b66206d7ca6240d98"), looks := false }, kinds := [], alts := [], laidByText := true, laidKinds := [.data, .data, .data, .sentinel], laidTests := true, laidLooks := .later }
def FnLineHeadingUptoCardSaid : Prop := Claim7.holds Tryz.pinned (.plain (OpenSpec.upto fnLineHeadingSpec)) fnLineHeadingUptoCard

/-- THE SECOND FORM's CARD OF 'laws.FnLineQuote'. -/
def fnLineQuoteUptoCard : Claim7 := { stood := { row := fnLineQuoteUptoRow, standIns := [], harness := (true, "0d1ebca62721e6c09120a89274ee0940431202c97260859b66206d7ca6240d98"), looks := false }, kinds := [], alts := [], laidByText := true, laidKinds := [.data, .data, .data, .sentinel], laidTests := true, laidLooks := .later }
def FnLineQuoteUptoCardSaid : Prop := Claim7.holds Tryz.pinned (.plain (OpenSpec.upto fnLineQuoteSpec)) fnLineQuoteUptoCard

/-- THE SECOND FORM's CARD OF 'laws.FnLineTerm'. -/
def fnLineTermUptoCard : Claim7 := { stood := { row := fnLineTermUptoRow, standIns := [], harness := (true, "0d1ebca62721e6c09120a89274ee0940431202c97260859b66206d7ca6240d98"), looks := false }, kinds := [], alts := [], laidByText := true, laidKinds := [.data, .data, .data, .sentinel], laidTests := true, laidLooks := .later }
def FnLineTermUptoCardSaid : Prop := Claim7.holds Tryz.pinned (.plain (OpenSpec.upto fnLineTermSpec)) fnLineTermUptoCard
end Rows
end Go.Proofs.YthddhejbkdenkaaGreatDoor
