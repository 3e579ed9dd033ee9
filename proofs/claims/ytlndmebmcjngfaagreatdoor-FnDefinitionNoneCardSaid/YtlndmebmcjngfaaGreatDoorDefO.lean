/- Definitions: a definition that came in, by its fields. No condition. -/
import Derived.Test.YtlndmebmcjngfaaGreatDoorBase
import Derived.Deep.Fields
import Derived.Deep.Strs
namespace Go.Proofs.YtlndmebmcjngfaaGreatDoor.fnDefinitionNone
open Go.ChangeShapes Go.WideShapes Go.ChangeAt Go.RowKit
open Go.ChangeMaps (open_string shut_string)

theorem cellsD : Tryz.prog.cellsOf 34 = 6 := by kernel_rfl
theorem cellsB : Tryz.prog.cellsOf 5 = 1 := by kernel_rfl
theorem cellsS : Tryz.prog.cellsOf 9 = 1 := by kernel_rfl
theorem cellsO : Tryz.prog.cellsOf 4 = 1 := by kernel_rfl
set_option maxRecDepth 100000 in
/-- a definition that came in, by its fields -/
theorem opened {H : Type} {enc : TypeId × Value → H} {W : World} {base : Nat} {v : Value} {d : DataW H} {p : List MemPlace} (hv : Value.okWide Tryz.prog W .any base 34 v)
    (h : DataW.Trod enc Tryz.prog W 0 (fun _ => true) true 34 v d p) : ∃ (bl : Int) (id pa ti : ByteArray) (q : Int) (nx : Bool), v = .agg #[.int .u8 bl, .string id, .string pa, .string ti, .int .u8 q, .bool nx] ∧ 0 ≤ bl ∧ 0 ≤ q := by
  obtain ⟨cs, rfl, hsz⟩ := okWide_struct Tryz.underlying34 hv
  obtain ⟨l⟩ := cs
  match l, hsz.trans cellsD with
  | [c0, c1, c2, c3, c4, c5], _ =>
    obtain ⟨fuel, hf⟩ := h
    obtain ⟨xs, n, _, _, _, hlen, hg⟩ := DataW.trod_struct Tryz.underlying34 hf
    match xs, hlen with
    | [y0, y1, y2, y3, y4, y5], _ =>
      have g0 : DataW.trod enc Tryz.prog W 0 (fun _ => true) true n 5 [c0] = some y0 := by simpa [Value.cells, cellsB, cellsS, cellsO] using hg 0 _ rfl
      have g1 : DataW.trod enc Tryz.prog W 0 (fun _ => true) true n 9 [c1] = some y1 := by simpa [Value.cells, cellsB, cellsS, cellsO] using hg 1 _ rfl
      have g2 : DataW.trod enc Tryz.prog W 0 (fun _ => true) true n 9 [c2] = some y2 := by simpa [Value.cells, cellsB, cellsS, cellsO] using hg 2 _ rfl
      have g3 : DataW.trod enc Tryz.prog W 0 (fun _ => true) true n 9 [c3] = some y3 := by simpa [Value.cells, cellsB, cellsS, cellsO] using hg 3 _ rfl
      have g4 : DataW.trod enc Tryz.prog W 0 (fun _ => true) true n 5 [c4] = some y4 := by simpa [Value.cells, cellsB, cellsS, cellsO] using hg 4 _ rfl
      have g5 : DataW.trod enc Tryz.prog W 0 (fun _ => true) true n 4 [c5] = some y5 := by simpa [Value.cells, cellsB, cellsS, cellsO] using hg 5 _ rfl
      obtain ⟨bl, e0, _, w0⟩ := DataW.trod_int Tryz.underlying5 g0
      obtain ⟨id, e1, _, _⟩ := DataW.trod_string Tryz.underlying9 g1
      obtain ⟨pa, e2, _, _⟩ := DataW.trod_string Tryz.underlying9 g2
      obtain ⟨ti, e3, _, _⟩ := DataW.trod_string Tryz.underlying9 g3
      obtain ⟨q, e4, _, w4⟩ := DataW.trod_int Tryz.underlying5 g4
      obtain ⟨nx, e5, _⟩ := DataW.trod_bool Tryz.underlying4 g5
      simp only [List.cons.injEq, and_true] at e0 e1 e2 e3 e4 e5
      subst e0 e1 e2 e3 e4 e5
      exact ⟨bl, id, pa, ti, q, nx, rfl, (bounds_u8 w0).1, (bounds_u8 w4).1⟩

end Go.Proofs.YtlndmebmcjngfaaGreatDoor.fnDefinitionNone
