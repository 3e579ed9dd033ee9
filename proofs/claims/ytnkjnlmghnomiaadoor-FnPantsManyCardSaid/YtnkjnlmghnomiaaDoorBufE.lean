/- bytes.Buffer: WriteByte, Bytes walked. Condition: lengths are bounded. -/
import Derived.Test.YtnkjnlmghnomiaaDoorBufD
namespace Go.Proofs.YtnkjnlmghnomiaaDoor
open Go.ChangeShapes Go.WideShapes Go.ChangeAt Go.RowKit

theorem room_put1 {w : World} {b r cap : Nat} {l : List UInt8} {cur : Array Value} (hrb : r ≠ b) (hB : Bf w b (.slice (some ⟨r, 0, none⟩) (l.length + 1) cap)) (hr : w.heap[r]? = some (.cells cur 5 (0, 0))) (hs : cur.size = cap) (hc : l.length + 1 ≤ cap) (hm : cap ≤ maxLen)
    (ht : cur.toList.take l.length = vals l) (c : UInt8) : BufAt (w.setCell ⟨r, l.length, none⟩ (.int .u8 (c.toNat : Int))) b (some r) (l ++ [c]) := by
  have hcl : cur.toList.length = cap := by rw [Array.length_toList]; exact hs
  refine Or.inr ⟨r, cap, cur.setIfInBounds l.length (.int .u8 (c.toNat : Int)), rfl, hrb, by rw [List.length_append]; simp, ?_, setHere w r l.length _ cur _ _ hr, ?_, by rw [List.length_append]; simpa using hc, hm, ?_⟩
  · rw [List.length_append]
    exact hB.far _ _ hrb
  · simpa using hs
  · rw [List.length_append, vals_append, ← ht]
    show (cur.setIfInBounds l.length (.int .u8 (c.toNat : Int))).toList.take (l.length + 1) = _
    rw [Array.toList_setIfInBounds, List.take_succ_eq_append_getElem (by rw [List.length_set]; omega), List.take_set_of_le (Nat.le_refl _)]
    simp [vals]
theorem room_cell {w : World} {r : Nat} {cur : Array Value} {t : TypeId} (hr : w.heap[r]? = some (.cells cur t (0, 0))) (i : Nat) (hi : i < cur.size) : (∃ v, w.cell? ⟨r, i, none⟩ = some v) ∧ w.frozen? ⟨r, i, none⟩ = false := by
  refine ⟨⟨cur[i], ?_⟩, ?_⟩
  · simp [World.cell?, hr, hi]
  · simp [World.frozen?, hr]
theorem But.cellR {K : Nat → Prop} {a w : World} (h : But K a w) (r i : Nat) (v : Value) (hr : K r ∨ a.heap.size ≤ r) : But K a (w.setCell ⟨r, i, none⟩ v) :=
  ⟨h.os, h.tape, h.output, by simpa using h.size, fun k hk hn => by
    rw [heap_far _ _ _ _ (fun e => by subst e; rcases hr with h1 | h1; exact hn h1; exact absurd hk (by show ¬ r < _; omega))]
    exact h.block k hk hn⟩

set_option maxHeartbeats 1000000 in
set_option maxRecDepth 100000 in
theorem writeByte_any (hG : GrowOk) (b : Nat) (g : Option Nat) (l : List UInt8) (c : UInt8) (w : World) (h : BufAt w b g l) (hl : l.length + 1 ≤ 1000000000) :
    Calls Tryd.prog 55 #[.pointer (some ⟨b, 0, none⟩), .int .u8 (c.toNat : Int)] w fun e w' => e = .returned .nilIface ∧ WroteAt b g l [c] w w' := by
  obtain ⟨⟨u2, c2⟩, hf⟩ := h.cells
  have f2 := hf 2
  have HG := Lib.hid hG
  have HT := Lib.hid (try_any b g l 1 _ (h.set2 0) (Nat.le_refl _) hl)
  have HB0 := Lib.hid (show But (fun k => k = b) w (w.setCell ⟨b, 2, none⟩ (.int .i8 0)) from (But.refl _ w).set ⟨b, 2, none⟩ _ rfl)
  have HSz := Lib.hid (show (w.setCell ⟨b, 2, none⟩ (.int .i8 0)).heap.size = w.heap.size by simp)
  clear h hG hf
  go_enter Tryd.func55, Tryd.ntmps55
  go_wp2_with fail
  refine HT.out.mono ?_
  rintro e w1 (⟨rfl, ⟨r, hg, hrb, cap, cur, hB, hr, hcs, hc, hm, ht⟩, hbut, hsz⟩ | ⟨rfl, rfl, hno⟩)
  · have d0 := hB.c0
    obtain ⟨⟨v, cv⟩, fv⟩ := room_cell hr l.length (by omega)
    have HP := Lib.hid (room_put1 hrb hB hr hcs hc hm ht c)
    have HBu := Lib.hid hbut
    have HGr := Lib.hid hg
    unfold maxLen at hm
    clear hB hr ht hbut hg HT
    go_wp2_with fail
    go_ret
    exact ⟨rfl, wrote_of (HB0.out.trans HBu.out) (Or.inl HGr.out) HP.out (fun K hb hk => hb.cellR r _ _ hk)⟩
  · have HGw := Lib.hid (grow_at HG.out b g l 1 w.heap.size _ hno (Nat.le_refl _) hl HSz.out)
    clear hno HT
    go_wp2_with fail
    refine HGw.out.mono ?_
    rintro e w2 ⟨rfl, ⟨hrb, cap, cur, hB, hr, hcs, hc, hm, ht⟩, hbut, hsz⟩
    obtain ⟨r, hrw⟩ : ∃ r, r = w.heap.size := ⟨_, rfl⟩
    rw [← hrw] at hrb hB hr
    have HRw := Lib.hid hrw
    have d0 := hB.c0
    obtain ⟨⟨v, cv⟩, fv⟩ := room_cell hr l.length (by omega)
    have HP := Lib.hid (room_put1 hrb hB hr hcs hc hm ht c)
    have HBu := Lib.hid hbut
    unfold maxLen at hm
    clear hB hr ht hbut hrw HGw
    go_wp2_with fail
    go_ret
    exact ⟨rfl, wrote_of (HB0.out.trans HBu.out) (Or.inr (Nat.le_of_eq HRw.out.symm)) HP.out (fun K hb hk => hb.cellR r _ _ hk)⟩

/-- what a buffer holds, read as bytes -/
theorem BufAt.bs {w : World} {b : Nat} {g : Option Nat} {l : List UInt8} (h : BufAt w b g l) : ∃ p c, Bf w b (.slice p l.length c) ∧ Bs w p l.length l ∧ (∀ a, p = some a → g = some a.block ∧ a.off = 0 ∧ a.spot = none) ∧ l.length ≤ c ∧ c ≤ maxLen := by
  rcases h with ⟨h1, h2, h3⟩ | ⟨r, cap, cur, h1, h2, h3, h4, h5, h6, h7, h8, h9⟩
  · subst h2
    exact ⟨none, 0, h3, ⟨rfl, fun h => absurd h (Nat.lt_irrefl _)⟩, (fun a e => by cases e), Nat.le_refl _, Nat.zero_le _⟩
  · refine ⟨_, cap, h4, ⟨rfl, fun _ => ⟨r, 0, rfl, (Array.getElem?_eq_some_iff.1 h5).1, fun i hi => ?_⟩⟩, (fun a e => by cases e; exact ⟨h1, rfl, rfl⟩), h7, h8⟩
    rw [Nat.zero_add]
    have := vals_get l i hi
    rw [← h9, List.getElem?_take, if_pos hi] at this
    simpa [World.cell?, h5] using this
theorem bytes_any (b : Nat) (g : Option Nat) (l : List UInt8) (w : World) (h : BufAt w b g l) (hl : l.length ≤ 1000000000) :
    Calls Tryd.prog 22 #[.pointer (some ⟨b, 0, none⟩)] w fun e w' => ∃ p c, e = .returned (.slice p l.length c) ∧ Bs w p l.length l ∧ (∀ a, p = some a → g = some a.block) ∧ ∃ z, w' = w.drewN z := by
  obtain ⟨p, c, h1, h2, h3, h4, h5⟩ := h.bs
  have c0 := h1.c0
  have c1 := h1.c1
  have H2 := Lib.hid h2
  have H3 := Lib.hid h3
  unfold maxLen at h5
  clear h h1 h2 h3
  rcases (show 0 < c ∨ c = 0 by omega) with hc | hc
  · go_enter Tryd.func22, Tryd.ntmps22
    go_upto_region 1 with fail
    go_quiet (fail)
    go_wp2_with fail
    go_ret
    exact ⟨p, c, rfl, H2.out, fun a e => (H3.out a e).1, _, rfl⟩
  · subst hc
    have hl0 : l = [] := List.eq_nil_of_length_eq_zero (by omega)
    subst hl0
    go_enter Tryd.func22, Tryd.ntmps22
    go_upto_region 1 with fail
    go_quiet (fail)
    go_wp2_with fail
    go_ret
    exact ⟨p, 0, rfl, H2.out, fun a e => (H3.out a e).1, _, rfl⟩

end Go.Proofs.YtnkjnlmghnomiaaDoor
