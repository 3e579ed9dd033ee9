/- Trees: nodes in memory. Lemmas on worlds, no program walked. -/
import Derived.Test.YtccofockeemmkaaRRTreeA
import Derived.Deep.OwnRows
namespace Go.Proofs.YtccofockeemmkaaRR
open Go.ChangeShapes Go.WideShapes Go.ChangeAt Go.RowKit

/-- a pointer to a node, or nil -/
def pt (A : Nat → Nat) (o : Option Nat) : Value := .pointer (o.map fun j => ⟨A j, 0, none⟩)
theorem pt_none (A : Nat → Nat) : pt A none = .pointer none := rfl
theorem pt_some (A : Nat → Nat) (j : Nat) : pt A (some j) = .pointer (some ⟨A j, 0, none⟩) := rfl

/-- n nodes stand in blocks of their own, with these neighbours -/
structure Nodes (w : World) (T C : Nat) (A : Nat → Nat) (n : Nat) (t : Tr) : Prop where
  rows : ∀ i, i < n → ∃ f, w.rowIs (A i) T C f ∧ f 1 = pt A (t.par i) ∧ f 2 = pt A (t.fst i) ∧ f 3 = pt A (t.lst i) ∧ f 4 = pt A (t.prv i) ∧ f 5 = pt A (t.nxt i)
  inj : ∀ i j, i < n → j < n → A i = A j → i = j

/-- nothing but nodes has turned -/
structure Kept (A : Nat → Nat) (n : Nat) (w w' : World) : Prop where
  os : w'.os = w.os
  tape : w'.tape = w.tape
  output : w'.output = w.output
  size : w'.heap.size = w.heap.size
  block : ∀ b, (∀ j, j < n → b ≠ A j) → w'.heap[b]? = w.heap[b]?
theorem Kept.refl (A : Nat → Nat) (n : Nat) (w : World) : Kept A n w w := ⟨rfl, rfl, rfl, rfl, fun _ _ => rfl⟩
theorem Kept.trans {A : Nat → Nat} {n : Nat} {a b c : World} (h : Kept A n a b) (k : Kept A n b c) : Kept A n a c :=
  ⟨k.os.trans h.os, k.tape.trans h.tape, k.output.trans h.output, k.size.trans h.size, fun x hx => (k.block x hx).trans (h.block x hx)⟩
theorem Kept.set {A : Nat → Nat} {n : Nat} {a b : World} (h : Kept A n a b) (i o : Nat) (hi : i < n) (v : Value) : Kept A n a (b.setCell ⟨A i, o, none⟩ v) :=
  h.trans ⟨rfl, rfl, rfl, by rw [Deep.nblk_setCell], fun x hx => Deep.blk_setCell_other _ _ _ _ (hx i hi)⟩

theorem Kept.drew {A : Nat → Nat} {n : Nat} {a b : World} (h : Kept A n a b) : Kept A n a b.drew := ⟨h.os, h.tape, h.output, h.size, h.block⟩

section
variable {w : World} {T C : Nat} {A : Nat → Nat} {n : Nat} {t : Tr}

theorem Nodes.drew (h : Nodes w T C A n t) : Nodes w.drew T C A n t := by
  refine ⟨fun i hi => ?_, h.inj⟩
  obtain ⟨f, hr, h1⟩ := h.rows i hi
  exact ⟨f, hr.drew, h1⟩
theorem Nodes.frozen (h : Nodes w T C A n t) {i : Nat} (hi : i < n) (k : Nat) : w.frozen? ⟨A i, k, none⟩ = false := by
  obtain ⟨f, hr, _⟩ := h.rows i hi
  exact hr.frozen k
theorem Nodes.c1 (h : Nodes w T C A n t) {i : Nat} (hi : i < n) (hC : 6 ≤ C) : w.cell? ⟨A i, 1, none⟩ = some (pt A (t.par i)) := by
  obtain ⟨f, hr, h1, _⟩ := h.rows i hi
  rw [hr.cell (by omega), h1]
theorem Nodes.c2 (h : Nodes w T C A n t) {i : Nat} (hi : i < n) (hC : 6 ≤ C) : w.cell? ⟨A i, 2, none⟩ = some (pt A (t.fst i)) := by
  obtain ⟨f, hr, _, h1, _⟩ := h.rows i hi
  rw [hr.cell (by omega), h1]
theorem Nodes.c3 (h : Nodes w T C A n t) {i : Nat} (hi : i < n) (hC : 6 ≤ C) : w.cell? ⟨A i, 3, none⟩ = some (pt A (t.lst i)) := by
  obtain ⟨f, hr, _, _, h1, _⟩ := h.rows i hi
  rw [hr.cell (by omega), h1]
theorem Nodes.c4 (h : Nodes w T C A n t) {i : Nat} (hi : i < n) (hC : 6 ≤ C) : w.cell? ⟨A i, 4, none⟩ = some (pt A (t.prv i)) := by
  obtain ⟨f, hr, _, _, _, h1, _⟩ := h.rows i hi
  rw [hr.cell (by omega), h1]
theorem Nodes.c5 (h : Nodes w T C A n t) {i : Nat} (hi : i < n) (hC : 6 ≤ C) : w.cell? ⟨A i, 5, none⟩ = some (pt A (t.nxt i)) := by
  obtain ⟨f, hr, _, _, _, _, h1⟩ := h.rows i hi
  rw [hr.cell (by omega), h1]

theorem Nodes.s1 (h : Nodes w T C A n t) {i : Nat} (hi : i < n) (v : Option Nat) : Nodes (w.setCell ⟨A i, 1, none⟩ (pt A v)) T C A n { t with par := upd t.par i v } := by
  refine ⟨fun j hj => ?_, h.inj⟩
  obtain ⟨f, hr, h1, h2, h3, h4, h5⟩ := h.rows j hj
  by_cases e : j = i
  · subst e
    exact ⟨_, hr.set 1 (pt A v), by simp [upd], by simpa using h2, by simpa using h3, by simpa using h4, by simpa using h5⟩
  · exact ⟨f, hr.setOther (fun x => e (h.inj j i hj hi x)) _, by simpa [upd, e] using h1, h2, h3, h4, h5⟩
theorem Nodes.s2 (h : Nodes w T C A n t) {i : Nat} (hi : i < n) (v : Option Nat) : Nodes (w.setCell ⟨A i, 2, none⟩ (pt A v)) T C A n { t with fst := upd t.fst i v } := by
  refine ⟨fun j hj => ?_, h.inj⟩
  obtain ⟨f, hr, h1, h2, h3, h4, h5⟩ := h.rows j hj
  by_cases e : j = i
  · subst e
    exact ⟨_, hr.set 2 (pt A v), by simpa using h1, by simp [upd], by simpa using h3, by simpa using h4, by simpa using h5⟩
  · exact ⟨f, hr.setOther (fun x => e (h.inj j i hj hi x)) _, h1, by simpa [upd, e] using h2, h3, h4, h5⟩
theorem Nodes.s3 (h : Nodes w T C A n t) {i : Nat} (hi : i < n) (v : Option Nat) : Nodes (w.setCell ⟨A i, 3, none⟩ (pt A v)) T C A n { t with lst := upd t.lst i v } := by
  refine ⟨fun j hj => ?_, h.inj⟩
  obtain ⟨f, hr, h1, h2, h3, h4, h5⟩ := h.rows j hj
  by_cases e : j = i
  · subst e
    exact ⟨_, hr.set 3 (pt A v), by simpa using h1, by simpa using h2, by simp [upd], by simpa using h4, by simpa using h5⟩
  · exact ⟨f, hr.setOther (fun x => e (h.inj j i hj hi x)) _, h1, h2, by simpa [upd, e] using h3, h4, h5⟩
theorem Nodes.s4 (h : Nodes w T C A n t) {i : Nat} (hi : i < n) (v : Option Nat) : Nodes (w.setCell ⟨A i, 4, none⟩ (pt A v)) T C A n { t with prv := upd t.prv i v } := by
  refine ⟨fun j hj => ?_, h.inj⟩
  obtain ⟨f, hr, h1, h2, h3, h4, h5⟩ := h.rows j hj
  by_cases e : j = i
  · subst e
    exact ⟨_, hr.set 4 (pt A v), by simpa using h1, by simpa using h2, by simpa using h3, by simp [upd], by simpa using h5⟩
  · exact ⟨f, hr.setOther (fun x => e (h.inj j i hj hi x)) _, h1, h2, h3, by simpa [upd, e] using h4, h5⟩
theorem Nodes.s5 (h : Nodes w T C A n t) {i : Nat} (hi : i < n) (v : Option Nat) : Nodes (w.setCell ⟨A i, 5, none⟩ (pt A v)) T C A n { t with nxt := upd t.nxt i v } := by
  refine ⟨fun j hj => ?_, h.inj⟩
  obtain ⟨f, hr, h1, h2, h3, h4, h5⟩ := h.rows j hj
  by_cases e : j = i
  · subst e
    exact ⟨_, hr.set 5 (pt A v), by simpa using h1, by simpa using h2, by simpa using h3, by simpa using h4, by simp [upd]⟩
  · exact ⟨f, hr.setOther (fun x => e (h.inj j i hj hi x)) _, h1, h2, h3, h4, by simpa [upd, e] using h5⟩
end

end Go.Proofs.YtccofockeemmkaaRR
