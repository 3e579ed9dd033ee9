/- Smart punctuation: rows of pieces that came in, by their rows. No condition. -/
import Derived.Test.YtnkjnlmghnomiaaDoorPanZ
import Derived.Test.YtnkjnlmghnomiaaDoorPamC
import Derived.Deep.Slices
import Derived.Deep.Strs
namespace Go.Proofs.YtnkjnlmghnomiaaDoor.pantsIn
open Go.ChangeShapes Go.WideShapes Go.ChangeAt Go.RowKit

theorem cellsR : Tryd.prog.cellsOf 22 = 1 := by kernel_rfl
instance : Inhabited RI := ⟨⟨none, 0, 0, fun _ => default⟩⟩

set_option maxRecDepth 100000 in
/-- a slice of rows of pieces that came in -/
theorem openedR {H : Type} {enc : TypeId × Value → H} {W : World} {fuel : Nat} {v : Value} {x : DataW H × List MemPlace}
    (h : DataW.trod enc Tryd.prog W 0 (fun _ => true) true fuel 30 [v] = some x) : ∃ (p : Option Addr) (len cap : Nat) (R : Nat → RI), v = .slice p len cap ∧ len ≤ maxLen ∧ PRows W p len R := by
  rcases Deep.open_slice Tryd.underlying30 h with ⟨hcs, _⟩ | ⟨a, len, cap, m, n, D, Pl, hcs, _, hl, hm, hmm, _, hx⟩
  · simp only [List.cons.injEq, and_true] at hcs
    subst hcs
    exact ⟨none, 0, 0, fun _ => default, rfl, Nat.zero_le _, ⟨fun h => absurd h (Nat.lt_irrefl 0), fun i hi => absurd hi (Nat.not_lt_zero i)⟩⟩
  · simp only [List.cons.injEq, and_true] at hcs
    subst hcs
    have hmc : m = cap := by rw [hmm]; simp
    rw [cellsR] at hx
    have each : ∀ i, i < len → ∃ r : RI, W.cell? (a.add i) = some (.slice r.p r.n r.c) ∧ Pcs W r.p r.n r.S ∧ r.n ≤ 9223372036854775807 := by
      intro i hi
      obtain ⟨cs, h1, h2⟩ := hx i (by omega)
      obtain ⟨_, hlen, hcell⟩ := World.cells?_some h1
      match cs, hlen with
      | [v0], _ =>
        obtain ⟨p', l', c', S, e, hl', hp⟩ := opened h2
        have q0 := hcell 0 (by omega)
        subst e
        unfold maxLen at hl'
        exact ⟨⟨p', l', c', S⟩, by simpa [Addr.add] using q0, hp, by omega⟩
    obtain ⟨R, hR⟩ := Deep.choose_lt each
    refine ⟨some a, len, cap, R, rfl, Nat.le_trans hl hm, ⟨fun hn => ?_, fun i hi => (hR i hi).2⟩⟩
    obtain ⟨b, off, spot⟩ := a
    have h0 := (hR 0 hn).1
    have hspot : spot = none := by simpa [Addr.add] using World.cell?_spot h0
    subst hspot
    refine ⟨b, off, rfl, World.block_lt_of_cell? W _ h0, fun i hi => ?_⟩
    have := (hR i hi).1
    simp only [add_at] at this
    exact this

end Go.Proofs.YtnkjnlmghnomiaaDoor.pantsIn
