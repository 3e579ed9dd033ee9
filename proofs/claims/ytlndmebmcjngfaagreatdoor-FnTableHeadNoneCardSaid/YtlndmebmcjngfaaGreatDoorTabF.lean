/- Tables: canContain, finalize, closeUnmatchedBlocks walked. No condition. -/
import Derived.Test.YtlndmebmcjngfaaGreatDoorTabE
namespace Go.Proofs.YtlndmebmcjngfaaGreatDoor
open Go.ChangeShapes Go.WideShapes Go.ChangeAt Go.RowKit

/-- what holds what -/
def Holds (ty t : Int) (r : Bool) : Prop := (ty = 0 ∧ t = 21 ∧ r = true) ∨ (ty = 21 ∧ t = 23 ∧ r = true) ∨ (ty = 23 ∧ t = 20 ∧ r = true) ∨ (ty = 20 ∧ t = 20 ∧ r = false)
set_option maxHeartbeats 2000000 in
theorem canContain_any (b : Nat) (ty t : Int) (r : Bool) (w : World) (hc : w.cell? ⟨b, 0, none⟩ = some (.int .i64 ty)) (h : Holds ty t r) :
    Calls Tryz.prog 98 #[.pointer (some ⟨b, 0, none⟩), .int .i64 t] w fun e w' => e = .returned (.bool r) ∧ w = w' := by
  rcases h with ⟨rfl, rfl, rfl⟩ | ⟨rfl, rfl, rfl⟩ | ⟨rfl, rfl, rfl⟩ | ⟨rfl, rfl, rfl⟩
  all_goals
    go_enter Tryz.func98, Tryz.ntmps98
    go_wp2_with fail
    go_ret
    exact ⟨rfl, rfl⟩

/-- a node is closed: its parent is the tip -/
theorem finalize_any (P b : Nat) (ty : Int) (par lst : Option Nat) (v : Value) (w : World) (h : Nd w b ty par lst) (hPb : P ≠ b) (hP : w.cell? ⟨P, 265, none⟩ = some v) (hf : w.frozen? ⟨P, 265, none⟩ = false) :
    Calls Tryz.prog 80 #[.pointer (some ⟨P, 0, none⟩), .pointer (some ⟨b, 0, none⟩)] w fun e w' => e = .returned (.tuple #[]) ∧ (∃ u, w' = (w.setCell ⟨b, 28, none⟩ u).setCell ⟨P, 265, none⟩ (nptr par)) := by
  obtain ⟨x, c28⟩ := h.cells 28 (by decide)
  have f28 := h.froz 28
  cases par with
  | none =>
    have c1 : w.cell? ⟨b, 1, none⟩ = some (.pointer none) := h.par
    clear h
    go_enter Tryz.func80, Tryz.ntmps80
    go_wp2_with fail
    go_end0
    exact ⟨rfl, _, rfl⟩
  | some pb =>
    have c1 : w.cell? ⟨b, 1, none⟩ = some (.pointer (some ⟨pb, 0, none⟩)) := h.par
    clear h
    go_enter Tryz.func80, Tryz.ntmps80
    go_wp2_with fail
    go_end0
    exact ⟨rfl, _, rfl⟩

/-- where all is closed nothing is to be closed -/
theorem closeUnmatched_any (P : Nat) (w : World) (h : w.cell? ⟨P, 268, none⟩ = some (.bool true)) :
    Calls Tryz.prog 48 #[.pointer (some ⟨P, 0, none⟩)] w fun e w' => e = .returned (.tuple #[]) ∧ w = w' := by
  go_enter Tryz.func48, Tryz.ntmps48
  go_wp2_with fail
  go_end0
  exact ⟨rfl, rfl⟩

end Go.Proofs.YtlndmebmcjngfaaGreatDoor
