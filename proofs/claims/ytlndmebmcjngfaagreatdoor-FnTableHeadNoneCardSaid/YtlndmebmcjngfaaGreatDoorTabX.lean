/- Tables: a table line that came in, by its fields. No condition. -/
import Derived.Test.YtlndmebmcjngfaaGreatDoorTabA
import Derived.Deep.Fields
import Derived.Deep.Strs
namespace Go.Proofs.YtlndmebmcjngfaaGreatDoor.fnTableHeadNone
open Go.ChangeShapes Go.WideShapes Go.ChangeAt Go.RowKit
open Go.ChangeMaps (open_string shut_string)

theorem cellsT : Tryz.prog.cellsOf 25 = 5 := by kernel_rfl
theorem cellsN : Tryz.prog.cellsOf 22 = 1 := by kernel_rfl
theorem cellsB : Tryz.prog.cellsOf 23 = 1 := by kernel_rfl
theorem cellsO : Tryz.prog.cellsOf 4 = 1 := by kernel_rfl
theorem cellsS : Tryz.prog.cellsOf 9 = 1 := by kernel_rfl
theorem cellsU : Tryz.prog.cellsOf 5 = 1 := by kernel_rfl
theorem strs_in (x : Addr) (n : Nat) (S : Nat → ByteArray) (W : World) (h : ∀ i, i < n → W.cell? (x.add i) = some (.string (S i))) : Strs W (some x) n S := by
  refine ⟨fun hn => ?_⟩
  obtain ⟨b, off, spot⟩ := x
  have h0 := h 0 hn
  have hspot : spot = none := by simpa [Addr.add] using World.cell?_spot h0
  subst hspot
  have e0 : W.cell? ⟨b, off, none⟩ = some (.string (S 0)) := by simpa [Addr.add] using h0
  refine ⟨b, off, rfl, World.block_lt_of_cell? W _ e0, fun i hi => ?_⟩
  have h1 := h i hi
  have hadd : (⟨b, off, none⟩ : Addr).add i = ⟨b, off + i, none⟩ := by unfold Addr.add; split <;> simp_all
  rw [hadd] at h1
  exact h1
/-- bytes that came in -/
theorem bytes_in {H : Type} {enc : TypeId × Value → H} {W : World} {n : Nat} {c : Value} {y : DataW H × List MemPlace} (h : DataW.trod enc Tryz.prog W 0 (fun _ => true) true n 23 [c] = some y) :
    ∃ p len cap l, c = .slice p len cap ∧ Bs W p len l ∧ len ≤ cap ∧ cap ≤ maxLen := by
  rcases open_ints Tryz.underlying23 Tryz.underlying5 cellsU h with ⟨hcs, _⟩ | ⟨x, l, c', zs, hcs, _, hl, hm, hz, _, hcell, hwz⟩
  · simp at hcs
    exact ⟨none, 0, 0, [], hcs, ⟨rfl, fun h => absurd h (Nat.lt_irrefl 0)⟩, Nat.le_refl _, Nat.zero_le _⟩
  · simp at hcs
    have hr : IsRow .u8 W (some x) l c' zs := Or.inr ⟨x, rfl, hl, hm, by simpa using hz, hcell, hwz⟩
    obtain ⟨bs, h1, h2, h3⟩ := hr.bs
    exact ⟨_, _, _, bs, hcs, h1, h2, h3⟩
set_option maxRecDepth 100000 in
/-- a table line that came in, by its fields -/
theorem opened {H : Type} {enc : TypeId × Value → H} {W : World} {base : Nat} {v : Value} {d : DataW H} {p : List MemPlace} (hv : Value.okWide Tryz.prog W .any base 25 v)
    (h : DataW.Trod enc Tryz.prog W 0 (fun _ => true) true 25 v d p) : ∃ (pn pa ph : Option Addr) (n cn m ca m2 ch : Nat) (bg en : Bool) (S : Nat → ByteArray) (al hl : List UInt8),
      v = .agg #[.slice pn n cn, .slice pa m ca, .slice ph m2 ch, .bool bg, .bool en] ∧ Strs W pn n S ∧ Bs W pa m al ∧ Bs W ph m2 hl ∧ m ≤ ca ∧ m2 ≤ ch ∧ ca ≤ maxLen ∧ ch ≤ maxLen := by
  obtain ⟨cs, rfl, hsz⟩ := okWide_struct Tryz.underlying25 hv
  obtain ⟨l⟩ := cs
  match l, hsz.trans cellsT with
  | [c0, c1, c2, c3, c4], _ =>
    obtain ⟨fuel, hf⟩ := h
    obtain ⟨xs, n, _, _, _, hlen, hg⟩ := DataW.trod_struct Tryz.underlying25 hf
    match xs, hlen with
    | [y0, y1, y2, y3, y4], _ =>
      have g0 : DataW.trod enc Tryz.prog W 0 (fun _ => true) true n 22 [c0] = some y0 := by simpa [Value.cells, cellsB, cellsN, cellsO] using hg 0 _ rfl
      have g1 : DataW.trod enc Tryz.prog W 0 (fun _ => true) true n 23 [c1] = some y1 := by simpa [Value.cells, cellsB, cellsN, cellsO] using hg 1 _ rfl
      have g2 : DataW.trod enc Tryz.prog W 0 (fun _ => true) true n 23 [c2] = some y2 := by simpa [Value.cells, cellsB, cellsN, cellsO] using hg 2 _ rfl
      have g3 : DataW.trod enc Tryz.prog W 0 (fun _ => true) true n 4 [c3] = some y3 := by simpa [Value.cells, cellsB, cellsN, cellsO] using hg 3 _ rfl
      have g4 : DataW.trod enc Tryz.prog W 0 (fun _ => true) true n 4 [c4] = some y4 := by simpa [Value.cells, cellsB, cellsN, cellsO] using hg 4 _ rfl
      obtain ⟨pa, m, ca, al, e1, hA, ha1, ha2⟩ := bytes_in g1
      obtain ⟨ph, m2, ch, hl, e2, hH, hh1, hh2⟩ := bytes_in g2
      obtain ⟨bg, e3, _⟩ := DataW.trod_bool Tryz.underlying4 g3
      obtain ⟨en, e4, _⟩ := DataW.trod_bool Tryz.underlying4 g4
      simp only [List.cons.injEq, and_true] at e3 e4
      subst e1 e2 e3 e4
      rcases Go.Deep.open_strs Tryz.underlying22 Tryz.underlying9 cellsS g0 with ⟨hcs, _⟩ | ⟨x, l, c, m', Sx, hcs, _, hl', hm, hmm, _, hcell⟩
      · simp only [List.cons.injEq, and_true] at hcs
        subst hcs
        exact ⟨none, pa, ph, 0, 0, m, ca, m2, ch, bg, en, fun _ => ⟨#[]⟩, al, hl, rfl, ⟨fun h => absurd h (Nat.lt_irrefl _)⟩, hA, hH, ha1, hh1, ha2, hh2⟩
      · simp only [List.cons.injEq, and_true] at hcs
        subst hcs
        exact ⟨some x, pa, ph, l, c, m, ca, m2, ch, bg, en, Sx, al, hl, rfl, strs_in x l Sx W (fun i hi => (hcell i (by rw [hmm]; simp; omega)).1), hA, hH, ha1, hh1, ha2, hh2⟩

end Go.Proofs.YtlndmebmcjngfaaGreatDoor.fnTableHeadNone
