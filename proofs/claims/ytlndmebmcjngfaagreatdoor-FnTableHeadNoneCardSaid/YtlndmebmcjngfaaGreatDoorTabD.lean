/- Tables: nodes of the tree; NewNode, Unlink, AppendChild walked at a new node. No condition. -/
import Derived.Test.YtlndmebmcjngfaaGreatDoorLineF
import Derived.Deep.DeepCutAuto
import Derived.Deep.CutBlock
namespace Go.Proofs.YtlndmebmcjngfaaGreatDoor
open Go.ChangeShapes Go.WideShapes Go.ChangeAt Go.RowKit

/-- a pointer to a node, or none -/
def nptr (o : Option Nat) : Value := .pointer (o.map fun b => (⟨b, 0, none⟩ : Addr))
/-- block b is a node of type ty, with its parent and its last child -/
structure Nd (w : World) (b : Nat) (ty : Int) (par lst : Option Nat) : Prop where
  cells : ∀ i, i < 29 → ∃ v, w.cell? ⟨b, i, none⟩ = some v
  froz : ∀ i, w.frozen? ⟨b, i, none⟩ = false
  typ : w.cell? ⟨b, 0, none⟩ = some (.int .i64 ty)
  par : w.cell? ⟨b, 1, none⟩ = some (nptr par)
  lst : w.cell? ⟨b, 3, none⟩ = some (nptr lst)
theorem Nd.lt {w : World} {b : Nat} {ty : Int} {par lst : Option Nat} (h : Nd w b ty par lst) : b < w.heap.size := World.block_lt_of_cell? w _ h.typ
theorem Nd.of_block {w w' : World} {b : Nat} {ty : Int} {par lst : Option Nat} (h : Nd w b ty par lst) (hb : w'.heap[b]? = w.heap[b]?) : Nd w' b ty par lst := by
  have hc : ∀ i, w'.cell? ⟨b, i, none⟩ = w.cell? ⟨b, i, none⟩ := fun i => by simp [World.cell?, hb]
  have hf : ∀ i, w'.frozen? ⟨b, i, none⟩ = w.frozen? ⟨b, i, none⟩ := fun i => by simp [World.frozen?, hb]
  exact ⟨fun i hi => by rw [hc]; exact h.cells i hi, fun i => by rw [hf]; exact h.froz i, (hc 0).trans h.typ, (hc 1).trans h.par, (hc 3).trans h.lst⟩
theorem setOther (w : World) (b i j : Nat) (v : Value) (hj : i ≠ j) : (w.setCell ⟨b, i, none⟩ v).cell? ⟨b, j, none⟩ = w.cell? ⟨b, j, none⟩ := by
  have hne : (⟨b, i, none⟩ : Addr) ≠ ⟨b, j, none⟩ := by intro e; cases e; exact hj rfl
  exact World.cell?_setCell_other (w := w) (v := v) _ _ hne
/-- a cell of a node is laid that is none of its type, its parent, its last child -/
theorem Nd.set {w : World} {b : Nat} {ty : Int} {par lst : Option Nat} (h : Nd w b ty par lst) (i : Nat) (v : Value) (h0 : i ≠ 0) (h1 : i ≠ 1) (h3 : i ≠ 3) : Nd (w.setCell ⟨b, i, none⟩ v) b ty par lst := by
  have hk : ∀ j, i ≠ j → (w.setCell ⟨b, i, none⟩ v).cell? ⟨b, j, none⟩ = w.cell? ⟨b, j, none⟩ := fun j hj => setOther w b _ j _ hj
  refine ⟨fun j hj => ?_, fun j => by simpa using h.froz j, (hk 0 h0).trans h.typ, (hk 1 h1).trans h.par, (hk 3 h3).trans h.lst⟩
  obtain ⟨u, hu⟩ := h.cells j hj
  exact cell?_setCell_some (w := w) (p := ⟨b, i, none⟩) (x := v) (q := ⟨b, j, none⟩) (v := u) hu
theorem Nd.setPar {w : World} {b : Nat} {ty : Int} {par lst : Option Nat} (h : Nd w b ty par lst) (p : Option Nat) : Nd (w.setCell ⟨b, 1, none⟩ (nptr p)) b ty p lst := by
  have hk : ∀ j, 1 ≠ j → (w.setCell ⟨b, 1, none⟩ (nptr p)).cell? ⟨b, j, none⟩ = w.cell? ⟨b, j, none⟩ := fun j hj => setOther w b _ j _ hj
  refine ⟨fun j hj => ?_, fun j => by simpa using h.froz j, (hk 0 (by decide)).trans h.typ, World.cell?_setCell_same _ _ _ h.par, (hk 3 (by decide)).trans h.lst⟩
  obtain ⟨u, hu⟩ := h.cells j hj
  exact cell?_setCell_some (w := w) (p := ⟨b, 1, none⟩) (x := nptr p) (q := ⟨b, j, none⟩) (v := u) hu
theorem Nd.setLst {w : World} {b : Nat} {ty : Int} {par lst : Option Nat} (h : Nd w b ty par lst) (p : Option Nat) : Nd (w.setCell ⟨b, 3, none⟩ (nptr p)) b ty par p := by
  have hk : ∀ j, 3 ≠ j → (w.setCell ⟨b, 3, none⟩ (nptr p)).cell? ⟨b, j, none⟩ = w.cell? ⟨b, j, none⟩ := fun j hj => setOther w b _ j _ hj
  refine ⟨fun j hj => ?_, fun j => by simpa using h.froz j, (hk 0 (by decide)).trans h.typ, (hk 1 (by decide)).trans h.par, World.cell?_setCell_same _ _ _ h.lst⟩
  obtain ⟨u, hu⟩ := h.cells j hj
  exact cell?_setCell_some (w := w) (p := ⟨b, 3, none⟩) (x := nptr p) (q := ⟨b, j, none⟩) (v := u) hu
theorem Nd.far {w : World} {b : Nat} {ty : Int} {par lst : Option Nat} (h : Nd w b ty par lst) (a : Addr) (v : Value) (hne : a.block ≠ b) : Nd (w.setCell a v) b ty par lst :=
  h.of_block (heap_setCell_other w a v b hne)

/-- nothing but the blocks in K has turned -/
structure But (K : Nat → Prop) (w w' : World) : Prop where
  os : w'.os = w.os
  tape : w'.tape = w.tape
  output : w'.output = w.output
  size : w.heap.size ≤ w'.heap.size
  block : ∀ k, k < w.heap.size → ¬ K k → w'.heap[k]? = w.heap[k]?
theorem But.refl (K : Nat → Prop) (w : World) : But K w w := ⟨rfl, rfl, rfl, Nat.le_refl _, fun _ _ _ => rfl⟩
theorem But.trans {K : Nat → Prop} {a b c : World} (h : But K a b) (k : But K b c) : But K a c :=
  ⟨k.os.trans h.os, k.tape.trans h.tape, k.output.trans h.output, Nat.le_trans h.size k.size, fun i hi hn => (k.block i (Nat.lt_of_lt_of_le hi h.size) hn).trans (h.block i hi hn)⟩
theorem But.mono {K K' : Nat → Prop} {a b : World} (h : But K a b) (hk : ∀ k, k < a.heap.size → K k → K' k) : But K' a b :=
  ⟨h.os, h.tape, h.output, h.size, fun i hi hn => h.block i hi (fun e => hn (hk i hi e))⟩
theorem But.set {K : Nat → Prop} {a b : World} (h : But K a b) (p : Addr) (v : Value) (hp : K p.block) : But K a (b.setCell p v) :=
  ⟨h.os, h.tape, h.output, by simpa using h.size, fun i hi hn => (heap_setCell_other b p v i (fun e => hn (by rw [← e]; exact hp))).trans (h.block i hi hn)⟩
theorem But.below {K : Nat → Prop} {a b c : World} (h : But K a b) (hb : Below b.heap.size b c) : But K a c :=
  ⟨hb.os.trans h.os, hb.tape.trans h.tape, hb.output.trans h.output, Nat.le_trans h.size hb.size, fun i hi hn => (hb.block i (Nat.lt_of_lt_of_le hi h.size)).trans (h.block i hi hn)⟩

/-- a new node: neither parent nor neighbours -/
structure NewNd (ty : Int) (w w' : World) : Prop where
  nd : Nd w' w.heap.size ty none none
  prev : w'.cell? ⟨w.heap.size, 4, none⟩ = some (.pointer none)
  next : w'.cell? ⟨w.heap.size, 5, none⟩ = some (.pointer none)
  below : Below w.heap.size w w'
set_option maxHeartbeats 1000000 in
theorem newNd_any (ty : Int) (w : World) :
    Calls Tryz.prog 32 #[.int .i64 ty] w fun e w' => e = .returned (.pointer (some ⟨w.heap.size, 0, none⟩)) ∧ NewNd ty w w' := by
  go_enter Tryz.func32, Tryz.ntmps32
  go_wp2_with fail
  go_ret
  refine ⟨rfl, ⟨⟨fun i hi => ?_, fun i => by simp, by simp, by simp [nptr], by simp [nptr]⟩, by simp, by simp, (Below.refl _ _).alloc (Nat.le_refl _) _⟩⟩
  rw [World.cell?_alloc_new]
  exact ⟨_, Array.getElem?_eq_getElem (by simpa using hi)⟩

set_option maxHeartbeats 1000000 in
/-- a node without parent and neighbours is unlinked -/
theorem unlink_any (N : Nat) (ty : Int) (w : World) (h : Nd w N ty none none) (hp : w.cell? ⟨N, 4, none⟩ = some (.pointer none)) (hn : w.cell? ⟨N, 5, none⟩ = some (.pointer none)) :
    Calls Tryz.prog 89 #[.pointer (some ⟨N, 0, none⟩)] w fun e w' => e = .returned (.tuple #[]) ∧ Nd w' N ty none none ∧ But (fun k => k = N) w w' ∧ w'.heap.size = w.heap.size := by
  have HH := Lib.hid h
  have c1 : w.cell? ⟨N, 1, none⟩ = some (.pointer none) := h.par
  have f1 := h.froz 1
  have f4 := h.froz 4
  have f5 := h.froz 5
  clear h
  go_enter Tryz.func89, Tryz.ntmps89
  go_wp2_with fail
  go_end0
  refine ⟨rfl, ?_, (((But.refl (fun k => k = N) w).set ⟨N, 1, none⟩ (.pointer none) rfl).set ⟨N, 5, none⟩ (.pointer none) rfl).set ⟨N, 4, none⟩ (.pointer none) rfl, by simp⟩
  exact ((HH.out.setPar none).set 5 _ (by decide) (by decide) (by decide)).set 4 _ (by decide) (by decide) (by decide)

end Go.Proofs.YtlndmebmcjngfaaGreatDoor
