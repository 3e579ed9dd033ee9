/- Trees: the state of impl.TreeRun: the own row of pointers, the nodes, their agreement. Lemmas on worlds. -/
import Derived.Test.YtccofockeemmkaaRRTreeI
namespace Go.Proofs.YtccofockeemmkaaRR
open Go.ChangeShapes Go.WideShapes Go.ChangeAt Go.RowKit

structure Tree (w : World) (B : Nat) (v : Value) (n : Nat) (A : Nat → Nat) (t : Tr) : Prop where
  base : B ≤ w.heap.size
  row : w.ownsRow B 44 1 v n (ptrs A n)
  nodes : Nodes w 61 29 A n t
  agree : Agree t
  within : Within t n
  above : ∀ i, i < n → B ≤ A i

theorem Tree.apart {w : World} {B : Nat} {v : Value} {n : Nat} {A : Nat → Nat} {t : Tr} (h : Tree w B v n A t) : ∀ i, i < n → v.ownBlock ≠ some (A i) := by
  intro i hi e
  obtain ⟨_, ⟨c, hb, _, _⟩, _⟩ := h.nodes.rows i hi
  rcases h.row.2 with ⟨hv, _⟩ | ⟨g, cap, cur, hv, _, hgb, _⟩
  · rw [hv] at e
    cases e
  · rw [hv] at e
    have e' : g = A i := by simpa [Value.ownBlock] using e
    rw [e', hb] at hgb
    injection hgb with h1
    injection h1 with _ h2 _
    exact absurd h2 (by decide)

theorem ownsRow_keep {w w' : World} {B : Nat} {e : TypeId} {sz : Nat} {v : Value} {n : Nat} {xs : List Value} (h : w.ownsRow B e sz v n xs) (hk : ∀ k, v.ownBlock = some k → w'.heap[k]? = w.heap[k]?) : w'.ownsRow B e sz v n xs := by
  refine ⟨h.1, ?_⟩
  rcases h.2 with h0 | ⟨g, cap, cur, hv, hB, hg, hr⟩
  · exact Or.inl h0
  · exact Or.inr ⟨g, cap, cur, hv, hB, by rw [hk g (by rw [hv]; rfl)]; exact hg, hr⟩

theorem Tree.moved {w w' : World} {B : Nat} {v : Value} {n : Nat} {A : Nat → Nat} {t t' : Tr} (h : Tree w B v n A t) (o : Obj) (hN : Nodes w' 61 29 A n t') (hK : Kept A n (w.alloc o) w') (hg : Agree t') (hW : Within t' n) :
    Tree w' B v n A t' ∧ Below B w w' := by
  have hs : w'.heap.size = w.heap.size + 1 := by rw [hK.size]; simp
  have hb := h.base
  refine ⟨⟨by omega, ownsRow_keep h.row fun k hk => ?_, hN, hg, hW, h.above⟩, ⟨hK.os, hK.tape, hK.output, by omega, fun k hk => ?_⟩⟩
  · rw [hK.block k (fun j hj e => h.apart j hj (by rw [hk, e]))]
    exact Below.heap_alloc _ _ _ (World.ownsRow.lt h.row k hk).2
  · rw [hK.block k (fun j hj e => by have := h.above j hj; omega)]
    exact Below.heap_alloc _ _ _ (by omega)

theorem Nodes.keep {w w' : World} {T C : Nat} {A : Nat → Nat} {n : Nat} {t : Tr} (h : Nodes w T C A n t) (hk : ∀ i, i < n → w'.heap[A i]? = w.heap[A i]?) : Nodes w' T C A n t := by
  refine ⟨fun i hi => ?_, h.inj⟩
  obtain ⟨f, hr, h1⟩ := h.rows i hi
  exact ⟨f, hr.of_block (hk i hi), h1⟩
theorem Within.mono {t : Tr} {n m : Nat} (h : Within t n) (hm : n ≤ m) : Within t m := by
  refine ⟨fun x c hx => ?_, fun x c hx => ?_, fun x c hx => ?_, fun x c hx => ?_, fun x c hx => ?_⟩
  · have := h.b1 x c hx; omega
  · have := h.b2 x c hx; omega
  · have := h.b3 x c hx; omega
  · have := h.b4 x c hx; omega
  · have := h.b5 x c hx; omega

theorem Tree.made {w w' : World} {B : Nat} {v v' : Value} {n : Nat} {A : Nat → Nat} {t : Tr} (h : Tree w B v n A t) (o : Obj) (cs : Array Value)
    (h1 : w'.ownsRow B 44 1 v' (n + 1) (ptrs (addA A n (w.alloc o).heap.size) (n + 1))) (h2 : Below B ((w.alloc o).alloc (.cells cs 61)) w') (hcs : cs.size = 29)
    (hp : ∀ i, 1 ≤ i → i ≤ 5 → cs[i]? = some (.pointer none)) (h4 : ∀ k, k < w.heap.size + 2 → some k ≠ v.ownBlock → w'.heap[k]? = ((w.alloc o).alloc (.cells cs 61)).heap[k]?) :
    Tree w' B v' (n + 1) (addA A n (w.alloc o).heap.size) t ∧ Below B w w' := by
  have hb := h.base
  have hs : (w.alloc o).heap.size = w.heap.size + 1 := by simp
  have hs2 : ((w.alloc o).alloc (.cells cs 61)).heap.size = w.heap.size + 2 := by simp
  have hA : ∀ i, i < n → A i < w.heap.size := fun i hi => by
    obtain ⟨f, hr, _⟩ := h.nodes.rows i hi
    exact hr.lt
  have hsz := h2.size
  rw [hs2] at hsz
  have hN := ((h.nodes.alloc o).grow h.within cs hcs hp).keep (w' := w') (fun i hi => by
    refine h4 _ ?_ ?_
    · unfold addA
      split
      · omega
      · have := hA i (by omega); omega
    · unfold addA
      split
      · intro e
        have := (World.ownsRow.lt h.row _ e.symm).2
        omega
      · intro e
        exact h.apart i (by omega) e.symm)
  refine ⟨⟨by omega, h1, hN, h.agree, h.within.mono (by omega), fun i hi => ?_⟩, ?_⟩
  · unfold addA
    split
    · omega
    · exact h.above i (by omega)
  · exact (((Below.refl B w).alloc hb o).alloc (by omega) _).trans h2

end Go.Proofs.YtccofockeemmkaaRR
