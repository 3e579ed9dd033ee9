/- Smart punctuation: pieces that came in, by their fields. No condition. -/
import Derived.Test.YtnkjnlmghnomiaaDoorPanW
import Derived.Deep.Slices
import Derived.Deep.Strs
namespace Go.Proofs.YtnkjnlmghnomiaaDoor.pantsIn
open Go.ChangeShapes Go.WideShapes Go.ChangeAt Go.RowKit
open Go.ChangeMaps (open_string shut_string)

theorem cellsT : Tryd.prog.cellsOf 40 = 6 := by kernel_rfl
theorem cellsI : Tryd.prog.cellsOf 3 = 1 := by kernel_rfl
theorem cellsS : Tryd.prog.cellsOf 9 = 1 := by kernel_rfl
theorem add_at (b o i : Nat) : (⟨b, o, none⟩ : Addr).add i = ⟨b, o + i, none⟩ := by
  unfold Addr.add
  split <;> simp_all
instance : Inhabited PI := ⟨⟨0, 0, ⟨#[]⟩, ⟨#[]⟩, 0, 0⟩⟩

set_option maxRecDepth 100000 in
/-- a slice of pieces that came in -/
theorem opened {H : Type} {enc : TypeId × Value → H} {W : World} {fuel : Nat} {v : Value} {x : DataW H × List MemPlace}
    (h : DataW.trod enc Tryd.prog W 0 (fun _ => true) true fuel 22 [v] = some x) : ∃ (p : Option Addr) (len cap : Nat) (S : Nat → PI), v = .slice p len cap ∧ len ≤ maxLen ∧ Pcs W p len S := by
  rcases Deep.open_slice Tryd.underlying22 h with ⟨hcs, _⟩ | ⟨a, len, cap, m, n, D, Pl, hcs, _, hl, hm, hmm, _, hx⟩
  · simp only [List.cons.injEq, and_true] at hcs
    subst hcs
    exact ⟨none, 0, 0, fun _ => default, rfl, Nat.zero_le _, ⟨fun h => absurd h (Nat.lt_irrefl 0)⟩⟩
  · simp only [List.cons.injEq, and_true] at hcs
    subst hcs
    have hmc : m = cap := by rw [hmm]; simp
    rw [cellsT] at hx
    have each : ∀ i, i < len → ∃ s : PI, W.cell? (a.add (i * 6)) = some (.int .i64 s.k) ∧ W.cell? ((a.add (i * 6)).add 1) = some (.int .i64 s.v) ∧ W.cell? ((a.add (i * 6)).add 2) = some (.string s.a) ∧
        W.cell? ((a.add (i * 6)).add 3) = some (.string s.b) ∧ W.cell? ((a.add (i * 6)).add 4) = some (.int .i64 s.n) ∧ W.cell? ((a.add (i * 6)).add 5) = some (.int .i64 s.m) := by
      intro i hi
      obtain ⟨cs, h1, h2⟩ := hx i (by omega)
      obtain ⟨_, hlen, hcell⟩ := World.cells?_some h1
      match cs, hlen with
      | [v0, v1, v2, v3, v4, v5], _ =>
        obtain ⟨xs, n', _, _, _, hlen', hg⟩ := DataW.trod_struct Tryd.underlying40 h2
        match xs, hlen' with
        | [y0, y1, y2, y3, y4, y5], _ =>
          have g0 : DataW.trod enc Tryd.prog W 0 (fun _ => true) true n' 3 [v0] = some y0 := by simpa [Value.cells, cellsI, cellsS] using hg 0 _ rfl
          have g1 : DataW.trod enc Tryd.prog W 0 (fun _ => true) true n' 3 [v1] = some y1 := by simpa [Value.cells, cellsI, cellsS] using hg 1 _ rfl
          have g2 : DataW.trod enc Tryd.prog W 0 (fun _ => true) true n' 9 [v2] = some y2 := by simpa [Value.cells, cellsI, cellsS] using hg 2 _ rfl
          have g3 : DataW.trod enc Tryd.prog W 0 (fun _ => true) true n' 9 [v3] = some y3 := by simpa [Value.cells, cellsI, cellsS] using hg 3 _ rfl
          have g4 : DataW.trod enc Tryd.prog W 0 (fun _ => true) true n' 3 [v4] = some y4 := by simpa [Value.cells, cellsI, cellsS] using hg 4 _ rfl
          have g5 : DataW.trod enc Tryd.prog W 0 (fun _ => true) true n' 3 [v5] = some y5 := by simpa [Value.cells, cellsI, cellsS] using hg 5 _ rfl
          obtain ⟨z0, e0, _, _⟩ := DataW.trod_int Tryd.underlying3 g0
          obtain ⟨z1, e1, _, _⟩ := DataW.trod_int Tryd.underlying3 g1
          obtain ⟨z2, e2, _, _⟩ := DataW.trod_string Tryd.underlying9 g2
          obtain ⟨z3, e3, _, _⟩ := DataW.trod_string Tryd.underlying9 g3
          obtain ⟨z4, e4, _, _⟩ := DataW.trod_int Tryd.underlying3 g4
          obtain ⟨z5, e5, _, _⟩ := DataW.trod_int Tryd.underlying3 g5
          have q0 := hcell 0 (by omega)
          have q1 := hcell 1 (by omega)
          have q2 := hcell 2 (by omega)
          have q3 := hcell 3 (by omega)
          have q4 := hcell 4 (by omega)
          have q5 := hcell 5 (by omega)
          simp only [List.cons.injEq, and_true] at e0 e1 e2 e3 e4 e5
          subst e0 e1 e2 e3 e4 e5
          exact ⟨⟨z0, z1, z2, z3, z4, z5⟩, by simpa [Addr.add] using q0, by simpa using q1, by simpa using q2, by simpa using q3, by simpa using q4, by simpa using q5⟩
    obtain ⟨S, hS⟩ := Deep.choose_lt each
    refine ⟨some a, len, cap, S, rfl, Nat.le_trans hl hm, ⟨fun hn => ?_⟩⟩
    obtain ⟨b, off, spot⟩ := a
    have h0 := (hS 0 hn).1
    have hspot : spot = none := by simpa [Addr.add] using World.cell?_spot h0
    subst hspot
    refine ⟨b, off, rfl, World.block_lt_of_cell? W _ h0, fun i hi => ?_⟩
    have := hS i hi
    simp only [add_at] at this
    exact this

end Go.Proofs.YtnkjnlmghnomiaaDoor.pantsIn
