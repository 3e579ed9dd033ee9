/- Trees: treeStep over the state keeps all that is no node and no row of pointers. Condition: the step is fine. -/
import Derived.Test.YtccofockeemmkaaRRTreeK
namespace Go.Proofs.YtccofockeemmkaaRR
open Go.ChangeShapes Go.WideShapes Go.ChangeAt Go.RowKit

/-- all blocks that hold neither a node nor pointers to nodes are as they were -/
structure Spare (w w' : World) : Prop where
  size : w.heap.size ≤ w'.heap.size
  block : ∀ (b : Nat) (cs : Array Value) (T : TypeId) (fr : Nat × Nat), w.heap[b]? = some (.cells cs T fr) → T ≠ 61 → T ≠ 44 → w'.heap[b]? = w.heap[b]?
theorem Spare.refl (w : World) : Spare w w := ⟨Nat.le_refl _, fun _ _ _ _ _ _ _ => rfl⟩
theorem Spare.trans {a b c : World} (h : Spare a b) (k : Spare b c) : Spare a c :=
  ⟨Nat.le_trans h.size k.size, fun x cs T fr hx h1 h2 => by
    have e := h.block x cs T fr hx h1 h2
    rw [k.block x cs T fr (e.trans hx) h1 h2, e]⟩
theorem Spare.below {w w' : World} (h : Below w.heap.size w w') : Spare w w' :=
  ⟨h.size, fun b cs T fr hb _ _ => h.block b (by
    rcases Nat.lt_or_ge b w.heap.size with hlt | hge
    · exact hlt
    · rw [Array.getElem?_eq_none hge] at hb; cases hb)⟩

theorem blk_lt {w : World} {b : Nat} {o : Obj} (h : w.heap[b]? = some o) : b < w.heap.size := by
  rcases Nat.lt_or_ge b w.heap.size with hlt | hge
  · exact hlt
  · rw [Array.getElem?_eq_none hge] at h; cases h

theorem Tree.no_node {w : World} {B : Nat} {v : Value} {n : Nat} {A : Nat → Nat} {t : Tr} (h : Tree w B v n A t) {b : Nat} {cs : Array Value} {T : TypeId} {fr : Nat × Nat} (hb : w.heap[b]? = some (.cells cs T fr)) (hT : T ≠ 61) (j : Nat) (hj : j < n) : b ≠ A j := by
  intro e
  obtain ⟨_, ⟨c, hc, _, _⟩, _⟩ := h.nodes.rows j hj
  rw [e, hc] at hb
  injection hb with h1
  injection h1 with _ h2 _
  exact hT h2.symm
theorem own_no {w : World} {B : Nat} {e : TypeId} {sz : Nat} {v : Value} {n : Nat} {xs : List Value} (h : w.ownsRow B e sz v n xs) {b : Nat} {cs : Array Value} {T : TypeId} {fr : Nat × Nat} (hb : w.heap[b]? = some (.cells cs T fr)) (hT : T ≠ e) : some b ≠ v.ownBlock := by
  intro he
  rcases h.2 with ⟨hv, _⟩ | ⟨g, cap, cur, hv, _, hgb, _⟩
  · rw [hv] at he
    cases he
  · rw [hv] at he
    have e' : b = g := by simpa [Value.ownBlock] using he
    rw [e', hgb] at hb
    injection hb with h1
    injection h1 with _ h2 _
    exact hT h2.symm

theorem Tree.spare_moved {w w' : World} {B : Nat} {v : Value} {n : Nat} {A : Nat → Nat} {t : Tr} (h : Tree w B v n A t) (o : Obj) (hK : Kept A n (w.alloc o) w') : Spare w w' := by
  have hs : w'.heap.size = w.heap.size + 1 := by rw [hK.size]; simp
  refine ⟨by omega, fun b cs T fr hb h1 _ => ?_⟩
  rw [hK.block b (h.no_node hb h1)]
  exact Below.heap_alloc _ _ _ (blk_lt hb)
theorem Tree.spare_made {w w' : World} {B : Nat} {v : Value} {n : Nat} {A : Nat → Nat} {t : Tr} (h : Tree w B v n A t) (o : Obj) (cs0 : Array Value)
    (h2 : Below B ((w.alloc o).alloc (.cells cs0 61)) w')
    (h4 : ∀ k, k < w.heap.size + 2 → some k ≠ v.ownBlock → w'.heap[k]? = ((w.alloc o).alloc (.cells cs0 61)).heap[k]?) : Spare w w' := by
  have hs2 : ((w.alloc o).alloc (.cells cs0 61)).heap.size = w.heap.size + 2 := by simp
  have hsz := h2.size
  rw [hs2] at hsz
  refine ⟨by omega, fun b cs T fr hb _ h1 => ?_⟩
  have hlt := blk_lt hb
  rw [h4 b (by omega) (own_no h.row hb h1), Below.heap_alloc _ _ _ (by simp; omega), Below.heap_alloc _ _ _ hlt]

theorem treeStep_spare (B : Nat) (A : Nat → Nat) (n n' : Nat) (t t' : Tr) (w : World) (v : Value) (op a b : Int) (h : Tree w B v n A t) (hf : Fine n t op a b n' t') (hn : n ≤ 1000000) :
    Calls Try.prog 9 #[v, .agg #[.int .i64 op, .int .i64 a, .int .i64 b]] w fun e w' => ∃ v' A', e = .returned v' ∧ Tree w' B v' n' A' t' ∧ Below B w w' ∧ Spare w w' := by
  obtain ⟨p, c, hv, _, _, hP⟩ := h.ptrs
  cases hf with
  | make =>
    refine (step0_any B A n w v a b h.row h.base hn).mono ?_
    rintro e w' ⟨v', o, cs, rfl, h1, h2, hcs, hp, h4⟩
    obtain ⟨k1, k2⟩ := h.made o cs h1 h2 hcs hp h4
    exact ⟨v', _, rfl, k1, k2, h.spare_made o cs h2 h4⟩
  | append a b ha hb =>
    have hh := h
    subst hv
    refine (step1_any _ _ A n t w p c a b hP h.nodes h.agree h.within ha hb (by decide) hn).mono ?_
    rintro e w' ⟨rfl, o, h1, h2⟩
    obtain ⟨k1, k2⟩ := h.moved o h1 h2 (app_agree (unl_agree h.agree b) a b (unl_root b)) (app_within (unl_within h.within b) a b ha hb)
    exact ⟨_, _, rfl, k1, k2, hh.spare_moved o h2⟩
  | insert a b ha hb hp =>
    have hh := h
    subst hv
    refine (step2_any _ _ A n t w p c a b hP h.nodes h.agree h.within ha hb (by decide) hn hp).mono ?_
    rintro e w' ⟨rfl, o, h1, h2⟩
    obtain ⟨k1, k2⟩ := h.moved o h1 h2 (ins_agree (unl_agree h.agree b) a b (unl_root b) hp) (ins_within (unl_within h.within b) a b ha hb)
    exact ⟨_, _, rfl, k1, k2, hh.spare_moved o h2⟩
  | unlink a b ha =>
    have hh := h
    subst hv
    refine (step3_any _ _ A n t w p c a b hP h.nodes h.agree h.within ha (by decide) hn).mono ?_
    rintro e w' ⟨rfl, o, h1, h2⟩
    obtain ⟨k1, k2⟩ := h.moved o h1 h2 (unl_agree h.agree a) (unl_within h.within a)
    exact ⟨_, _, rfl, k1, k2, hh.spare_moved o h2⟩

end Go.Proofs.YtccofockeemmkaaRR
