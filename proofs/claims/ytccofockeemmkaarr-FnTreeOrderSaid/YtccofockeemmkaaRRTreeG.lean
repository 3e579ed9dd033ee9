/- Appending one element of some cells to a row of the call's own. No program walked. -/
import Derived.Test.YtccofockeemmkaaRRTreeF
namespace Go.Proofs.YtccofockeemmkaaRR
open Go.ChangeShapes Go.WideShapes Go.ChangeAt Go.RowKit

theorem app_row {ops : Array Oper} {rest : List Oper} {o : Oper} {a : Act} {Q : Exit → Act → World → Prop} (hgd : o.guard = none) (s x : Operand) (ST ET : TypeId) (z : Value) (sz bytes : Nat)
    (hST : Try.prog.underlying ST = some (.slice ET)) (hinfo : (Try.prog.info? ET).map (fun i => (i.zero, i.size, i.bytes)) = some (some z, sz, bytes)) (hzs : z.cells.size = sz) (hsz : 0 < sz) (hby : bytes ≤ 1000)
    (ho : o.op = .call { callee := .builtin .append, args := #[s, x], argTypes := #[ST, ST] }) (B : Nat) (v : Value) (m : Nat) (xs : List Value) (hs : a.eval s = v) {W : World}
    (hown : W.ownsRow B ET sz v m xs) (cs : Array Value) (hul : cs.size = sz) (hone : ∀ u ∈ cs.toList, u.oneCell' = true) (hx : a.eval x = .slice (some ⟨W.heap.size, 0, none⟩) 1 1) (hn : m ≤ 1000000) (hB : B ≤ W.heap.size)
    (h : ∀ v' w', w'.ownsRow B ET sz v' (m + 1) (xs ++ cs.toList) → v' ≠ .slice none 0 0 → Below B W w' → (∀ k, k < W.heap.size → some k ≠ v.ownBlock → w'.heap[k]? = W.heap[k]?) → wpList Try.prog ops Q rest (a.put o.dst v') w') :
    wpList Try.prog ops Q (o :: rest) a (W.alloc (.cells cs ET)) := by
  obtain ⟨i0, hi, hz0, hz1, hz2⟩ := info_parts hinfo
  refine wpList_append_own _ hgd s x ST ho B ET i0 z sz bytes hST hi hz0 hz1 hz2 hzs hsz v m xs hs (World.ownsRow.alloc hown _) ⟨W.heap.size, 0, none⟩ 1 1 cs.toList hx (by simp [hul]) ?_ hone (by unfold maxLen; omega) ?_ (by simp; omega) ?_
  · intro j y hj
    rw [Addr.add_lit, Nat.zero_add, World.cell?_alloc_mark]
    simpa using hj
  · have : (m + 1) * bytes ≤ 1000001 * 1000 := Nat.mul_le_mul (by omega) hby
    omega
  · intro v' w' hown' hg hnil
    refine h v' w' hown' ?_ (((Below.refl B W).alloc hB _).grown hg (by simp; omega) (fun k hk => ?_)) (fun k hk hne => ?_)
    · intro e
      have := (hnil.1 e).2
      omega
    · exact (World.ownsRow.lt hown k hk).1
    · rw [hg.block k (by simp; omega) hne]
      exact Below.heap_alloc _ _ _ hk

/-- n nodes and one more, new and without neighbours -/
def addA (A : Nat → Nat) (n b : Nat) : Nat → Nat := fun i => if i = n then b else A i
theorem Nodes.grow {w : World} {C : Nat} {A : Nat → Nat} {n : Nat} {t : Tr} {T : TypeId} (h : Nodes w T C A n t) (hW : Within t n) (cs : Array Value) (hcs : cs.size = C) (hp : ∀ i, 1 ≤ i → i ≤ 5 → cs[i]? = some (.pointer none)) :
    Nodes (w.alloc (.cells cs T)) T C (addA A n w.heap.size) (n + 1) t := by
  have hlt : ∀ i, i < n → A i < w.heap.size := fun i hi => by
    obtain ⟨f, hr, _⟩ := h.rows i hi
    exact hr.lt
  have hpt : ∀ o : Option Nat, (∀ c, o = some c → c < n) → pt (addA A n w.heap.size) o = pt A o := by
    intro o ho
    cases o with
    | none => rfl
    | some c => rw [pt_some, pt_some, addA, if_neg (by have := ho c rfl; omega)]
  refine ⟨fun i hi => ?_, fun i j hi hj e => ?_⟩
  · by_cases e : i = n
    · subst e
      have no : ∀ (f : Nat → Option Nat), (∀ c, f i = some c → i < i) → f i = none := fun f hf => by
        cases hx : f i with
        | none => rfl
        | some c => exact absurd (hf c hx) (Nat.lt_irrefl _)
      have n1 := no t.par (fun c hc => (hW.b1 i c hc).1)
      have n2 := no t.fst (fun c hc => (hW.b2 i c hc).1)
      have n3 := no t.lst (fun c hc => (hW.b3 i c hc).1)
      have n4 := no t.prv (fun c hc => (hW.b4 i c hc).1)
      have n5 := no t.nxt (fun c hc => (hW.b5 i c hc).1)
      have g : ∀ k, 1 ≤ k → k ≤ 5 → cs[k]?.getD default = .pointer none := fun k h1 h2 => by rw [hp k h1 h2]; rfl
      refine ⟨fun k => cs[k]?.getD default, ⟨cs, ?_, hcs, fun k hk => ?_⟩, ?_⟩
      · rw [addA, if_pos rfl]
        show (w.heap.push _)[w.heap.size]? = _
        simp
      · show cs[k]? = some (cs[k]?.getD default)
        rw [Array.getElem?_eq_getElem (by omega)]
        rfl
      · rw [n1, n2, n3, n4, n5]
        exact ⟨g 1 (by omega) (by omega), g 2 (by omega) (by omega), g 3 (by omega) (by omega), g 4 (by omega) (by omega), g 5 (by omega) (by omega)⟩
    · have hi' : i < n := by omega
      obtain ⟨f, hr, h1, h2, h3, h4, h5⟩ := h.rows i hi'
      refine ⟨f, ?_, ?_⟩
      · rw [addA, if_neg e]
        exact hr.alloc _
      · rw [hpt _ (fun c hc => (hW.b1 i c hc).2), hpt _ (fun c hc => (hW.b2 i c hc).2), hpt _ (fun c hc => (hW.b3 i c hc).2), hpt _ (fun c hc => (hW.b4 i c hc).2), hpt _ (fun c hc => (hW.b5 i c hc).2)]
        exact ⟨h1, h2, h3, h4, h5⟩
  · unfold addA at e
    by_cases e1 : i = n
    · by_cases e2 : j = n
      · omega
      · rw [if_pos e1, if_neg e2] at e
        have := hlt j (by omega)
        omega
    · by_cases e2 : j = n
      · rw [if_neg e1, if_pos e2] at e
        have := hlt i (by omega)
        omega
      · rw [if_neg e1, if_neg e2] at e
        exact h.inj i j (by omega) (by omega) e

end Go.Proofs.YtccofockeemmkaaRR
