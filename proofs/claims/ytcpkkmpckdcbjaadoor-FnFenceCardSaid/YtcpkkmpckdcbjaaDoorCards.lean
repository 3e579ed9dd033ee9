/-
  DERIVED. GIVEN WITH THE SEED: THE CARDS: each row of YtcpkkmpckdcbjaaDoorRows.lean that lists a variable, with what it lists TIED to the program's text (the seventh form; the later family's looks); each row that meets fmt, with fmt's text TOLD by the authors' own Lean function (tested against real Go, not proved from fmt's source: count such statements apart). THE CARD IS WHAT COUNTS. Prove the row's statement (the work); the ties are given (YtcpkkmpckdcbjaaDoorTie.lean); close each card by the builder's one call (the guide's Derived/Test/ToyasCard.lean, 'card_holds'). Laid BY PROGRAM, IN A SANDBOX (cutbox-door.mjs). By AI agents, Wed Nov 11 2026. No macro, syntax, notation, axiom, sorry.
-/
import Derived.Test.YtcpkkmpckdcbjaaDoorRows
import GoSem.ClaimSeven
namespace Go.Proofs.YtcpkkmpckdcbjaaDoor
namespace Rows

/-- THE TIED CARD OF 'laws.FnFence'. -/
def fnFenceCard : Claim7 := { stood := { row := fnFenceRow, standIns := [], harness := (true, "c0840ba43723e0aa79c64ac44c015b03d76ef3667c7be1d4f6a13b7386d6634e"), looks := false }, kinds := [], alts := [], laidByText := true, laidKinds := [.data, .pinned], laidTests := true, laidLooks := .later }
def FnFenceCardSaid : Prop := Claim7.holds Tryd.pinned (.plain (OpenSpec.ofChange fnFenceSpec)) fnFenceCard

/-- THE SECOND FORM's CARD OF 'laws.FnFence'. -/
def fnFenceUptoCard : Claim7 := { stood := { row := fnFenceUptoRow, standIns := [], harness := (true, "c0840ba43723e0aa79c64ac44c015b03d76ef3667c7be1d4f6a13b7386d6634e"), looks := false }, kinds := [], alts := [], laidByText := true, laidKinds := [.data, .pinned], laidTests := true, laidLooks := .later }
def FnFenceUptoCardSaid : Prop := Claim7.holds Tryd.pinned (.plain (OpenSpec.upto fnFenceSpec)) fnFenceUptoCard
end Rows
end Go.Proofs.YtcpkkmpckdcbjaaDoor
