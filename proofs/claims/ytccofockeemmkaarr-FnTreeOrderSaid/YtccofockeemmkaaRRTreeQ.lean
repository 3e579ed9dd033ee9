/- Forests in memory: what stores and appends do to them. Lemmas on worlds. -/
import Derived.Test.YtccofockeemmkaaRRTreeP
namespace Go.Proofs.YtccofockeemmkaaRR
open Go.ChangeShapes Go.WideShapes Go.ChangeAt Go.RowKit

theorem map_upd (n i : Nat) (up : Nat → Option Nat) (v : Option Nat) : (List.range n).map (fun k => Value.int .i64 (num1 (upd up i v k))) = ((List.range n).map fun k => Value.int .i64 (num1 (up k))).set i (.int .i64 (num1 v)) := by
  refine List.ext_getElem? fun k => ?_
  rw [List.getElem?_set]
  by_cases hk : k < n
  · by_cases e : i = k
    · subst e
      simp [hk, upd]
    · have e2 : ¬ k = i := fun h => e h.symm
      simp [hk, upd, e, e2]
  · by_cases e : i = k
    · subst e
      simp [hk]
    · simp [hk, e]
theorem map_rv (n i : Nat) (rv : Nat → Value) (r : Value) : (List.range n).map (fun k => if k = i then r else rv k) = ((List.range n).map rv).set i r := by
  refine List.ext_getElem? fun k => ?_
  rw [List.getElem?_set]
  by_cases hk : k < n
  · by_cases e : i = k
    · subst e
      simp [hk]
    · have e2 : ¬ k = i := fun h => e h.symm
      simp [hk, e, e2]
  · by_cases e : i = k
    · subst e
      simp [hk]
    · simp [hk, e]

section
variable {w : World} {B fb n o : Nat} {up : Nat → Option Nat} {dn : Nat → List Nat} {upv dnv : Value} {rv : Nat → Value}

theorem own_lt {w : World} {B : Nat} {e : TypeId} {sz : Nat} {v : Value} {n : Nat} {xs : List Value} (h : w.ownsRow B e sz v n xs) {k : Nat} (hk : v.ownBlock = some k) : k < w.heap.size := (World.ownsRow.lt h k hk).2

theorem Forest.later {w' : World} (h : Forest w B fb n o up dn upv dnv rv) (hb : Below w.heap.size w w') : Forest w' B fb n o up dn upv dnv rv :=
  ⟨Nat.le_trans h.base hb.size, h.fbB, by rw [hb.block fb (blk_lt h.blk)]; exact h.blk, own_later h.upr hb, own_later h.dnr hb, fun i hi ho => own_later (h.rows i hi ho) hb, h.ap1, h.ap2⟩

theorem Forest.fb_up (h : Forest w B fb n o up dn upv dnv rv) : some fb ≠ upv.ownBlock := own_no h.upr h.blk (by decide)
theorem Forest.fb_dn (h : Forest w B fb n o up dn upv dnv rv) : some fb ≠ dnv.ownBlock := own_no h.dnr h.blk (by decide)
theorem Forest.fb_row (h : Forest w B fb n o up dn upv dnv rv) {i : Nat} (hi : i < n) (ho : i ≠ o) : some fb ≠ (rv i).ownBlock := own_no (h.rows i hi ho) h.blk (by decide)

/-- a store into the parents -/
theorem Forest.setUp {g c : Nat} (h : Forest w B fb n o up dn (.slice (some ⟨g, 0, none⟩) n c) dnv rv) (i : Nat) (v : Option Nat) (z : Int) (hz : z = num1 v) :
    Forest (w.setCell ⟨g, i, none⟩ (.int .i64 z)) B fb n o (upd up i v) dn (.slice (some ⟨g, 0, none⟩) n c) dnv rv ∧ Below B w (w.setCell ⟨g, i, none⟩ (.int .i64 z)) := by
  subst hz
  have hgb : (Value.slice (some ⟨g, 0, none⟩) n c).ownBlock = some g := rfl
  obtain ⟨cs, hcs⟩ := own_block h.upr hgb
  have hbl := (World.ownsRow.lt h.upr g hgb).1
  refine ⟨⟨by simpa using h.base, h.fbB, ?_, ?_, ?_, fun i' hi ho => ?_, h.ap1, h.ap2⟩, (Below.refl B w).setCell hbl _⟩
  · rw [Below.heap_setCell _ _ _ _ (fun e => h.fb_up (by rw [hgb]; exact congrArg some e))]
    exact h.blk
  · rw [map_upd]
    exact (World.ownsRow.stored h.upr i _).1
  · exact ownsRow_setCell_other h.dnr (fun e => own_no h.dnr hcs (by decide) e.symm) _
  · exact ownsRow_setCell_other (h.rows i' hi ho) (fun e => h.ap1 i' g hi ho e hgb) _

/-- a store into the rows of children -/
theorem Forest.setDn {g c : Nat} (h : Forest w B fb n o up dn upv (.slice (some ⟨g, 0, none⟩) n c) rv) (i : Nat) (ho : o = n ∨ o = i) (r : Value) (l : List Nat) (hr : w.ownsRow B 3 1 r l.length (l.map fun k : Nat => .int .i64 (k : Int)))
    (h1 : ∀ k, r.ownBlock = some k → upv.ownBlock ≠ some k) (h2 : ∀ j k, j < n → j ≠ i → (rv j).ownBlock = some k → r.ownBlock ≠ some k) :
    Forest (w.setCell ⟨g, i, none⟩ r) B fb n n up (setD dn i l) upv (.slice (some ⟨g, 0, none⟩) n c) (fun k => if k = i then r else rv k) ∧ Below B w (w.setCell ⟨g, i, none⟩ r) := by
  have hgb : (Value.slice (some ⟨g, 0, none⟩) n c).ownBlock = some g := rfl
  obtain ⟨cs, hcs⟩ := own_block h.dnr hgb
  have hbl := (World.ownsRow.lt h.dnr g hgb).1
  refine ⟨⟨by simpa using h.base, h.fbB, ?_, ?_, ?_, fun j hj _ => ?_, fun j k hj _ hk => ?_, fun j j' k hj hj' _ _ hk hk' => ?_⟩, (Below.refl B w).setCell hbl _⟩
  · rw [Below.heap_setCell _ _ _ _ (fun e => h.fb_dn (by rw [hgb]; exact congrArg some e))]
    exact h.blk
  · exact ownsRow_setCell_other h.upr (fun e => own_no h.upr hcs (by decide) e.symm) _
  · rw [map_rv]
    exact (World.ownsRow.stored h.dnr i _).1
  · by_cases e : j = i
    · subst e
      simp only [setD, if_true]
      exact ownsRow_setCell_other hr (fun e => own_no hr hcs (by decide) e.symm) _
    · simp only [setD, if_neg e]
      have hjo : j ≠ o := by rcases ho with ho | ho <;> omega
      exact ownsRow_setCell_other (h.rows j hj hjo) (fun e => own_no (h.rows j hj hjo) hcs (by decide) e.symm) _
  · by_cases e : j = i
    · subst e
      simp only [if_true] at hk
      exact h1 k hk
    · simp only [if_neg e] at hk
      have hjo : j ≠ o := by rcases ho with ho | ho <;> omega
      exact h.ap1 j k hj hjo hk
  · by_cases e : j = i
    · subst e
      simp only [if_true] at hk
      by_cases e' : j' = j
      · exact e'.symm
      · simp only [if_neg e'] at hk'
        exact absurd hk (h2 j' k hj' e' hk')
    · simp only [if_neg e] at hk
      by_cases e' : j' = i
      · subst e'
        simp only [if_true] at hk'
        exact absurd hk' (h2 j k hj e hk)
      · simp only [if_neg e'] at hk'
        have hjo : j ≠ o := by rcases ho with ho | ho <;> omega
        have hjo' : j' ≠ o := by rcases ho with ho | ho <;> omega
        exact h.ap2 j j' k hj hj' hjo hjo' hk hk'

/-- a new row, made behind the world in which the forest lay -/
theorem Forest.setNew {w' : World} {g c : Nat} (h : Forest w B fb n n up dn upv (.slice (some ⟨g, 0, none⟩) n c) rv) (hb : Below w.heap.size w w') (i : Nat) (r : Value) (l : List Nat) (hr : w'.ownsRow w.heap.size 3 1 r l.length (l.map fun k : Nat => .int .i64 (k : Int))) :
    Forest (w'.setCell ⟨g, i, none⟩ r) B fb n n up (setD dn i l) upv (.slice (some ⟨g, 0, none⟩) n c) (fun k => if k = i then r else rv k) ∧ Below B w (w'.setCell ⟨g, i, none⟩ r) := by
  have hB := h.base
  have k := (h.later hb).setDn i (Or.inl rfl) r l (own_base hr hB) (fun k hk e => by
    have h1 := (World.ownsRow.lt hr k hk).1
    have h2 := own_lt h.upr e
    omega) (fun j k hj hji hk e => by
    have h1 := (World.ownsRow.lt hr k e).1
    have h2 := own_lt (h.rows j hj (by omega)) hk
    omega)
  exact ⟨k.1, (hb.mono hB).trans k.2⟩

/-- a row of children has been appended to -/
theorem Forest.turned {w' : World} {a : Nat} (h : Forest w B fb n n up dn upv dnv rv) (ha : a < n) (hs : w.heap.size ≤ w'.heap.size) (hk : ∀ k, k < w.heap.size → some k ≠ (rv a).ownBlock → w'.heap[k]? = w.heap[k]?) : Forest w' B fb n a up dn upv dnv rv := by
  have hra := h.rows a ha (by omega)
  refine ⟨Nat.le_trans h.base hs, h.fbB, ?_, ?_, ?_, fun i hi ho => ?_, fun i k hi ho => h.ap1 i k hi (by omega), fun i j k hi hj _ _ => h.ap2 i j k hi hj (by omega) (by omega)⟩
  · rw [hk fb (blk_lt h.blk) (h.fb_row ha (by omega))]
    exact h.blk
  · exact ownsRow_keep h.upr fun k hu => hk k (own_lt h.upr hu) (fun e => h.ap1 a k ha (by omega) e.symm hu)
  · exact own_aside h.dnr hra (by decide) hk
  · have hri := h.rows i hi (by omega)
    exact ownsRow_keep hri fun k hu => hk k (own_lt hri hu) (fun e => ho (h.ap2 i a k hi ha (by omega) (by omega) hu e.symm))

/-- a node more: both slices have been appended to and stored back -/
theorem Forest.grown {w' : World} (h : Forest w B fb n n up dn upv dnv rv) (upv' dnv' : Value) (hup : up n = none) (hdn : dn n = []) (hs : w.heap.size ≤ w'.heap.size)
    (hu : w'.ownsRow B 3 1 upv' (n + 1) ((List.range n).map (fun i => Value.int .i64 (num1 (up i))) ++ [.int .i64 (-1)])) (hd : w'.ownsRow B 25 1 dnv' (n + 1) ((List.range n).map rv ++ [.slice none 0 0]))
    (hub : ∀ k, upv'.ownBlock = some k → upv.ownBlock = some k ∨ w.heap.size ≤ k) (hk : ∀ k, k < w.heap.size → some k ≠ upv.ownBlock → some k ≠ dnv.ownBlock → w'.heap[k]? = w.heap[k]?) (hbe : Below B w w') :
    Forest ((w'.setCell ⟨fb, 0, none⟩ upv').setCell ⟨fb, 1, none⟩ dnv') B fb (n + 1) (n + 1) up dn upv' dnv' (fun i => if i = n then .slice none 0 0 else rv i) ∧ Below B w ((w'.setCell ⟨fb, 0, none⟩ upv').setCell ⟨fb, 1, none⟩ dnv') := by
  have hfb : w'.heap[fb]? = some (.cells #[upv, dnv] 28 (0, 0)) := by
    rw [hk fb (blk_lt h.blk) h.fb_up h.fb_dn]
    exact h.blk
  have h1 : ((w'.setCell ⟨fb, 0, none⟩ upv').setCell ⟨fb, 1, none⟩ dnv').heap[fb]? = some (.cells #[upv', dnv'] 28 (0, 0)) := by
    have := heap_setCell_same w' fb 0 _ _ upv' hfb
    exact heap_setCell_same (w'.setCell ⟨fb, 0, none⟩ upv') fb 1 _ _ dnv' this
  have hoth : ∀ {e : TypeId} {sz : Nat} {v : Value} {m : Nat} {xs : List Value}, w'.ownsRow B e sz v m xs → e ≠ 28 → ((w'.setCell ⟨fb, 0, none⟩ upv').setCell ⟨fb, 1, none⟩ dnv').ownsRow B e sz v m xs := by
    intro e sz v m xs hv he
    have hne := own_no hv hfb (fun x => he x.symm)
    exact ownsRow_setCell_other (ownsRow_setCell_other hv (fun x => hne x.symm) _) (fun x => hne x.symm) _
  have hrow : ∀ i, i < n → w'.ownsRow B 3 1 (rv i) (dn i).length ((dn i).map fun k : Nat => .int .i64 (k : Int)) := fun i hi => by
    have hri := h.rows i hi (by omega)
    refine ownsRow_keep hri fun k hu => ?_
    obtain ⟨cs, hcs⟩ := own_block hri hu
    exact hk k (blk_lt hcs) (fun e => h.ap1 i k hi (by omega) hu e.symm) (own_no h.dnr hcs (by decide))
  have hB := h.base
  refine ⟨⟨by simp; omega, h.fbB, h1, ?_, ?_, fun i hi _ => ?_, fun i k hi _ hk' => ?_, fun i j k hi hj _ _ hi' hj' => ?_⟩, (hbe.setCell h.fbB _).setCell h.fbB _⟩
  · have e : (List.range (n + 1)).map (fun i => Value.int .i64 (num1 (up i))) = (List.range n).map (fun i => Value.int .i64 (num1 (up i))) ++ [.int .i64 (-1)] := by
      rw [List.range_succ, List.map_append]
      simp only [List.map_cons, List.map_nil, hup]
      rfl
    rw [e]
    exact hoth hu (by decide)
  · have e : (List.range (n + 1)).map (fun i => if i = n then Value.slice none 0 0 else rv i) = (List.range n).map rv ++ [.slice none 0 0] := by
      rw [List.range_succ, List.map_append]
      congr 1
      · refine List.map_congr_left fun i hi => ?_
        rw [if_neg (by have := List.mem_range.1 hi; omega)]
      · simp
    rw [e]
    exact hoth hd (by decide)
  · by_cases e : i = n
    · subst e
      simp only [if_true, hdn, List.map_nil, List.length_nil]
      exact World.ownsRow_nil _ _ _ _
    · simp only [if_neg e]
      exact hoth (hrow i (by omega)) (by decide)
  · by_cases e : i = n
    · subst e
      simp only [if_true] at hk'
      cases hk'
    · simp only [if_neg e] at hk'
      intro hu'
      rcases hub k hu' with h2 | h2
      · exact h.ap1 i k (by omega) (by omega) hk' h2
      · have := own_lt (h.rows i (by omega) (by omega)) hk'
        omega
  · by_cases e : i = n
    · subst e
      simp only [if_true] at hi'
      cases hi'
    · by_cases e' : j = n
      · subst e'
        simp only [if_true] at hj'
        cases hj'
      · simp only [if_neg e] at hi'
        simp only [if_neg e'] at hj'
        exact h.ap2 i j k (by omega) (by omega) (by omega) (by omega) hi' hj'
end

end Go.Proofs.YtccofockeemmkaaRR
