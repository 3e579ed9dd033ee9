/- Smart punctuation: rows of texts in memory. No condition. -/
import Derived.Test.YtnkjnlmghnomiaaDoorPanP
namespace Go.Proofs.YtnkjnlmghnomiaaDoor
open Go.ChangeShapes Go.WideShapes Go.ChangeAt Go.RowKit

theorem heap_in {w : World} {b : Nat} {o : Obj} (h : w.heap[b]? = some o) : b < w.heap.size := by
  rcases Nat.lt_or_ge b w.heap.size with hlt | hge
  · exact hlt
  · rw [Array.getElem?_eq_none hge] at h; cases h

/-- blocks of bytes behind B are as they were -/
def Kept8 (B : Nat) (w w' : World) : Prop := ∀ b cs fr, B ≤ b → w.heap[b]? = some (.cells cs 5 fr) → w'.heap[b]? = w.heap[b]?
theorem Kept8.refl (B : Nat) (w : World) : Kept8 B w w := fun _ _ _ _ _ => rfl
theorem Kept8.trans {B : Nat} {a b c : World} (h : Kept8 B a b) (k : Kept8 B b c) : Kept8 B a c := fun x cs fr hB hx => by
  have e := h x cs fr hB hx
  rw [k x cs fr hB (e.trans hx), e]
theorem Kept8.all {B : Nat} {w w' : World} (h : ∀ k, B ≤ k → k < w.heap.size → w'.heap[k]? = w.heap[k]?) : Kept8 B w w' := fun b _ _ hB hb => h b hB (heap_in hb)
theorem Kept8.below {B B' : Nat} {w w' : World} (h : Below B' w w') (hB : w.heap.size ≤ B') : Kept8 B w w' := Kept8.all fun k _ hk => h.block k (by omega)
theorem Kept8.alloc (B : Nat) (w : World) (o : Obj) : Kept8 B w (w.alloc o) := Kept8.all fun _ _ hk => Below.heap_alloc _ _ _ hk
theorem Kept8.grown {B B' sz n : Nat} {e : TypeId} {v : Value} {xs : List Value} {w w' : World} (h : w.grownBy w' v.ownBlock) (ho : w.ownsRow B' e sz v n xs) (he : 5 ≠ e) : Kept8 B w w' := fun b cs fr _ hb => by
  refine h.block b (heap_in hb) (fun e1 => ?_)
  rcases ho.2 with ⟨hv, _⟩ | ⟨g, cap, cur, hv, _, hg, _⟩
  · rw [hv] at e1
    cases e1
  · rw [hv] at e1
    have e' : b = g := by simpa [Value.ownBlock] using e1
    rw [e', hg] at hb
    injection hb with h1
    injection h1 with _ h2 _
    exact he h2.symm

/-- a text that lies in a block of bytes behind B -/
structure El (w : World) (B : Nat) (v : Value) (l : List UInt8) : Prop where
  val : ∃ p c, v = .slice p l.length c ∧ Bs w p l.length l ∧ l.length ≤ c ∧ c ≤ maxLen ∧ ∀ a, p = some a → B ≤ a.block ∧ ∃ cs fr, w.heap[a.block]? = some (.cells cs 5 fr)
theorem El.of_owns {w : World} {B : Nat} {v : Value} {l : List UInt8} (h : Owns w B v l) : El w B v l := by
  obtain ⟨p, c, hv, hc, hcm, hbs⟩ := h.bs
  refine ⟨p, c, hv, hbs, hc, hcm, fun a ha => ?_⟩
  have h' : w.ownsRow B 5 1 v l.length (vals l) := h
  rcases h'.2 with ⟨hv2, _⟩ | ⟨g, cap, cur, hv2, hB, hg, _⟩
  · rw [hv, ha] at hv2
    injection hv2 with e1
    cases e1
  · rw [hv, ha] at hv2
    injection hv2 with e1
    injection e1 with e1
    subst e1
    exact ⟨hB, cur, _, hg⟩
theorem El.kept {w w' : World} {B : Nat} {v : Value} {l : List UInt8} (h : El w B v l) (hk : Kept8 B w w') : El w' B v l := by
  obtain ⟨p, c, hv, hbs, hc, hcm, hp⟩ := h.val
  refine ⟨p, c, hv, ⟨rfl, fun hn => ?_⟩, hc, hcm, fun a ha => ?_⟩
  · obtain ⟨b, o, e, hlt, hcell⟩ := hbs.cells hn
    obtain ⟨hB, cs, fr, hb⟩ := hp _ e
    have hb' := hk b cs fr hB hb
    refine ⟨b, o, e, heap_in (hb'.trans hb), fun i hi => ?_⟩
    rw [← hcell i hi]
    exact World.cell?_of_block hb'
  · obtain ⟨hB, cs, fr, hb⟩ := hp a ha
    exact ⟨hB, cs, fr, (hk _ cs fr hB hb).trans hb⟩
theorem El.down {w : World} {B B' : Nat} {v : Value} {l : List UInt8} (h : El w B v l) (hB : B' ≤ B) : El w B' v l := by
  obtain ⟨p, c, hv, hbs, hc, hcm, hp⟩ := h.val
  exact ⟨p, c, hv, hbs, hc, hcm, fun a ha => ⟨by have := (hp a ha).1; omega, (hp a ha).2⟩⟩

/-- a row of values, by their places -/
def rowV (V : Nat → Value) (n : Nat) : List Value := (List.range n).map V
theorem rowV_len (V : Nat → Value) (n : Nat) : (rowV V n).length = n := by simp [rowV]
theorem rowV_get (V : Nat → Value) (n i : Nat) (h : i < n) : (rowV V n)[i]? = some (V i) := by simp [rowV, h]
theorem rowV_snoc (V : Nat → Value) (n : Nat) (x : Value) : rowV (fun i => if i < n then V i else x) (n + 1) = rowV V n ++ [x] := by
  unfold rowV
  rw [List.range_succ, List.map_append]
  congr 1
  · exact List.map_congr_left fun i hi => by rw [if_pos (List.mem_range.1 hi)]
  · simp

/-- an own row of k texts -/
structure TRow (w : World) (B : Nat) (v : Value) (k : Nat) (L : Nat → List UInt8) : Prop where
  row : ∃ V : Nat → Value, w.ownsRow B 27 1 v k (rowV V k) ∧ ∀ i, i < k → El w B (V i) (L i)
theorem TRow.nil (w : World) (B : Nat) (L : Nat → List UInt8) : TRow w B (.slice none 0 0) 0 L := ⟨fun _ => .nilIface, World.ownsRow_nil _ _ _ _, fun i hi => absurd hi (Nat.not_lt_zero i)⟩
theorem TRow.moved {w w' : World} {B k : Nat} {v : Value} {L : Nat → List UInt8} (h : TRow w B v k L) (hk : ∀ b, B ≤ b → b < w.heap.size → w'.heap[b]? = w.heap[b]?) : TRow w' B v k L := by
  obtain ⟨V, hrow, hel⟩ := h.row
  refine ⟨V, ⟨hrow.1, ?_⟩, fun i hi => (hel i hi).kept (Kept8.all hk)⟩
  rcases hrow.2 with hn | ⟨g, cap, cur, hv, hB, hg, rest⟩
  · exact .inl hn
  · exact .inr ⟨g, cap, cur, hv, hB, by rw [hk g hB (heap_in hg)]; exact hg, rest⟩
/-- .. with one text behind -/
theorem TRow.snoc {w w' : World} {B k : Nat} {v v' x : Value} {l : List UInt8} {V : Nat → Value} {L : Nat → List UInt8} (hrow : w.ownsRow B 27 1 v k (rowV V k)) (hel : ∀ i, i < k → El w B (V i) (L i)) (hx : El w B x l)
    (hg : w.grownBy w' v.ownBlock) (h' : w'.ownsRow B 27 1 v' (k + 1) (rowV V k ++ [x])) (hl : L k = l) : TRow w' B v' (k + 1) L := by
  have hk8 : Kept8 B w w' := Kept8.grown hg hrow (by decide)
  refine ⟨fun i => if i < k then V i else x, by rw [rowV_snoc]; exact h', fun i hi => ?_⟩
  show El w' B (if i < k then V i else x) (L i)
  by_cases e : i < k
  · rw [if_pos e]
    exact (hel i e).kept hk8
  · obtain rfl : i = k := by omega
    rw [if_neg e, hl]
    exact hx.kept hk8

/-- a slice of texts -/
structure Txs (w : World) (p : Option Addr) (n : Nat) (L : Nat → List UInt8) : Prop where
  cells : 0 < n → ∃ b o, p = some ⟨b, o, none⟩ ∧ b < w.heap.size ∧ ∀ i, i < n → ∃ q c, w.cell? ⟨b, o + i, none⟩ = some (.slice q (L i).length c) ∧ Bs w q (L i).length (L i)
theorem Txs.below {w w' : World} {B : Nat} {p : Option Addr} {n : Nat} {L : Nat → List UInt8} (h : Txs w p n L) (hb : Below B w w') (hB : w.heap.size ≤ B) : Txs w' p n L := by
  refine ⟨fun hn => ?_⟩
  obtain ⟨b, o, hp, hlt, hc⟩ := h.cells hn
  refine ⟨b, o, hp, Nat.lt_of_lt_of_le hlt hb.size, fun i hi => ?_⟩
  obtain ⟨q, c, h1, h2⟩ := hc i hi
  exact ⟨q, c, (hb.cell (p := ⟨b, o + i, none⟩) (by show b < B; omega)).trans h1, h2.below hb hB⟩
theorem TRow.txs {w : World} {B k : Nat} {v : Value} {L : Nat → List UInt8} (h : TRow w B v k L) : ∃ p c, v = .slice p k c ∧ Txs w p k L := by
  obtain ⟨V, hrow, hel⟩ := h.row
  rcases hrow.2 with ⟨hv, h0⟩ | ⟨g, cap, cur, hv, hB, hg, hn, hcm, _, _⟩
  · exact ⟨none, 0, by rw [hv, h0], ⟨fun hp => by omega⟩⟩
  · refine ⟨_, cap, hv, ⟨fun hp => ⟨g, 0, rfl, heap_in hg, fun i hi => ?_⟩⟩⟩
    have hc := hrow.cells (g := g) (by rw [hv]; rfl) i _ (rowV_get V k i hi)
    have hadd : (⟨g, 0, none⟩ : Addr).add i = ⟨g, i, none⟩ := by unfold Addr.add; split <;> simp_all
    rw [hadd] at hc
    obtain ⟨q, c, hq, hbs, _⟩ := (hel i hi).val
    exact ⟨q, c, by rw [Nat.zero_add, hc, hq], hbs⟩

theorem Tryd.info27T : (Tryd.prog.info? 27).map (fun i => (i.zero, i.size, i.bytes)) = some (some (.slice none 0 0), 1, 24) := by kernel_rfl

end Go.Proofs.YtnkjnlmghnomiaaDoor
