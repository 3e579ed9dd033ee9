/- Smart punctuation: the callbacks of quotes walked. Condition: lengths are bounded. -/
import Derived.Test.YtnkjnlmghnomiaaDoorPanI
namespace Go.Proofs.YtnkjnlmghnomiaaDoor
open Go.ChangeShapes Go.WideShapes Go.ChangeAt Go.RowKit

theorem dqv_any (F : Cfg) (B : Nat) (va : Value) (b tb t0 n c : Nat) (m : List UInt8) (prev : Int) (w : World) (h : CbIn F B va b tb t0 n m w) (op : Bool) (q : UInt8) (hl : 1 < m.length) (hq : hqB op prev (bat m 1) = true) :
    Calls Tryd.prog 50 #[.pointer (some ⟨B, 0, none⟩), .pointer (some ⟨b, 0, none⟩), .int .u8 prev, .slice (some ⟨tb, t0, none⟩) n c, .int .u8 (q.toNat : Int)] w (CbSaid F B va b (quoL op q false) 0 w) := by
  have hln := h.text.len
  have hn6 := h.n6
  have c1 := h.cell 1 hl
  have hn : 2 ≤ n := by omega
  have HQ := Lib.hid (quote_any F B va b w w [] h.cb op prev (bat m 1) hq q 1 (by decide) false (by simp))
  clear h hq
  go_enter Tryd.func50, Tryd.ntmps50
  go_wp2_with fail
  refine HQ.out.mono ?_
  rintro e w1 ⟨rfl, hc⟩
  go_wp2_with fail
  go_ret
  exact ⟨rfl, by simpa using hc⟩

theorem dq_any (F : Cfg) (B : Nat) (va : Value) (b tb t0 n c : Nat) (m : List UInt8) (prev : Int) (w : World) (h : CbIn F B va b tb t0 n m w) (op : Bool) (hl : 1 < m.length) (hq : hqB op prev (bat m 1) = true) :
    Calls Tryd.prog 36 #[.pointer (some ⟨B, 0, none⟩), .pointer (some ⟨b, 0, none⟩), .int .u8 prev, .slice (some ⟨tb, t0, none⟩) n c] w (CbSaid F B va b (quoL op 100 false) 0 w) := by
  have HQ := Lib.hid (dqv_any F B va b tb t0 n c m prev w h op 100 hl hq)
  clear h hq
  go_enter Tryd.func36, Tryd.ntmps36
  go_wp2_with fail
  refine HQ.out.mono ?_
  rintro e w1 ⟨rfl, hc⟩
  go_wp2_with fail
  go_ret
  exact ⟨rfl, hc⟩

theorem aq_any (F : Cfg) (B : Nat) (va : Value) (b tb t0 n c : Nat) (m : List UInt8) (prev : Int) (w : World) (h : CbIn F B va b tb t0 n m w) (op : Bool) (hl : 1 < m.length) (hq : hqB op prev (bat m 1) = true) :
    Calls Tryd.prog 37 #[.pointer (some ⟨B, 0, none⟩), .pointer (some ⟨b, 0, none⟩), .int .u8 prev, .slice (some ⟨tb, t0, none⟩) n c] w (CbSaid F B va b (quoL op 97 false) 0 w) := by
  have HQ := Lib.hid (dqv_any F B va b tb t0 n c m prev w h op 97 hl hq)
  clear h hq
  go_enter Tryd.func37, Tryd.ntmps37
  go_wp2_with fail
  refine HQ.out.mono ?_
  rintro e w1 ⟨rfl, hc⟩
  go_wp2_with fail
  go_ret
  exact ⟨rfl, hc⟩

theorem tick_any (F : Cfg) (B : Nat) (va : Value) (b tb t0 n c : Nat) (m : List UInt8) (prev : Int) (w : World) (h : CbIn F B va b tb t0 n m w) (op : Bool) (h1 : bat m 1 = 96) (hl : 2 < m.length) (hq : hqB op prev (bat m 2) = true) :
    Calls Tryd.prog 46 #[.pointer (some ⟨B, 0, none⟩), .pointer (some ⟨b, 0, none⟩), .int .u8 prev, .slice (some ⟨tb, t0, none⟩) n c] w (CbSaid F B va b (quoL op 100 false) 1 w) := by
  have hln := h.text.len
  have hn6 := h.n6
  have c1 := h.cell 1 (by omega)
  have c2 := h.cell 2 hl
  rw [h1] at c1
  have hn : 3 ≤ n := by omega
  have HQ := Lib.hid (quote_any F B va b w w [] h.cb op prev (bat m 2) hq 100 1 (by decide) false (by simp))
  clear h hq h1
  go_enter Tryd.func46, Tryd.ntmps46
  go_wp2_with fail
  refine HQ.out.mono ?_
  rintro e w1 ⟨rfl, hc⟩
  go_wp2_with fail
  go_ret
  exact ⟨rfl, by simpa using hc⟩

set_option maxHeartbeats 2000000 in
theorem apos2_any (F : Cfg) (B : Nat) (va : Value) (b tb t0 n c : Nat) (m : List UInt8) (prev : Int) (w : World) (h : CbIn F B va b tb t0 n m w) (op : Bool) (h1 : bat m 1 = 39) (hl : 2 < m.length) (hq : hqB op prev (bat m 2) = true) :
    Calls Tryd.prog 38 #[.pointer (some ⟨B, 0, none⟩), .pointer (some ⟨b, 0, none⟩), .int .u8 prev, .slice (some ⟨tb, t0, none⟩) n c] w (CbSaid F B va b (quoL op 100 false) 1 w) := by
  have hln := h.text.len
  have hn6 := h.n6
  have HTl := Lib.hid (show tb < w.heap.size by obtain ⟨b', o', e, hlt, _⟩ := h.text.cells h.n1; cases e; exact hlt)
  have wb32 : wbI 32 = true := rfl
  have c1 := h.cell 1 (by omega)
  have c2 := h.cell 2 (by omega)
  rw [h1] at c1
  have HQ := Lib.hid hq
  have HT1 := Lib.hid (fun w' (g : Below w.heap.size w w') => (g.cell (p := ⟨tb, t0 + 1, none⟩) HTl.out).trans c1)
  have HT2 := Lib.hid (fun w' (g : Below w.heap.size w w') => (g.cell (p := ⟨tb, t0 + 2, none⟩) HTl.out).trans c2)
  have hbl := Below.refl w.heap.size w
  have hcb := h.cb
  have hn : 3 ≤ n := by omega
  have e39 : lowerN 39 = 39 := by decide
  clear h h1 hq
  go_enter Tryd.func38, Tryd.ntmps38
  go_wp2_with (first | (go_at_call 51; refine (tolowerN_any _ _ (by first | decide | exact bat_nonneg _ _) (by first | decide | exact bat_lt _ _)).mono ?_; rintro e w1 ⟨rfl, rfl⟩) | (go_at_call 53; refine (wb_any _ _).mono ?_; rintro e w2 ⟨rfl, hb⟩; have hcb := Cb.below hcb hb; have hbl := Below.trans hbl (Below.mono hb hbl.size); have k1 := HT1.out _ hbl; have k2 := HT2.out _ hbl) | (go_at_call 52; refine (quote_any F B va b w _ [] hcb op _ _ HQ.out 100 1 (by decide) false (by simp)).mono ?_; rintro e w1 ⟨rfl, hc⟩))
  all_goals go_ret
  all_goals exact ⟨rfl, by simpa using hc⟩

set_option maxHeartbeats 2000000 in
theorem short1_any (F : Cfg) (B : Nat) (va : Value) (b tb t0 n c : Nat) (m : List UInt8) (prev : Int) (w : World) (h : CbIn F B va b tb t0 n m w) (v : Int) (h1 : bat m 1 = v) (hv : v = 115 ∨ v = 116 ∨ v = 109 ∨ v = 100) (h2 : bat m 2 = 32) (hl : 2 < m.length) :
    Calls Tryd.prog 38 #[.pointer (some ⟨B, 0, none⟩), .pointer (some ⟨b, 0, none⟩), .int .u8 prev, .slice (some ⟨tb, t0, none⟩) n c] w (CbSaid F B va b rsquoL 0 w) := by
  have hln := h.text.len
  have hn6 := h.n6
  have HTl := Lib.hid (show tb < w.heap.size by obtain ⟨b', o', e, hlt, _⟩ := h.text.cells h.n1; cases e; exact hlt)
  have wb32 : wbI 32 = true := rfl
  have c1 := h.cell 1 (by omega)
  have c2 := h.cell 2 (by omega)
  rw [h1] at c1
  rw [h2] at c2
  have HT1 := Lib.hid (fun w' (g : Below w.heap.size w w') => (g.cell (p := ⟨tb, t0 + 1, none⟩) HTl.out).trans c1)
  have HT2 := Lib.hid (fun w' (g : Below w.heap.size w w') => (g.cell (p := ⟨tb, t0 + 2, none⟩) HTl.out).trans c2)
  have hbl := Below.refl w.heap.size w
  have hcb := h.cb
  have hn : 3 ≤ n := by omega
  have e115 : lowerN 115 = 115 := by decide
  have e116 : lowerN 116 = 116 := by decide
  have e109 : lowerN 109 = 109 := by decide
  have e100 : lowerN 100 = 100 := by decide
  clear h h1 h2
  rcases hv with rfl | rfl | rfl | rfl
  all_goals
    go_enter Tryd.func38, Tryd.ntmps38
    go_wp2_with (first | (go_at_call 51; refine (tolowerN_any _ _ (by first | decide | exact bat_nonneg _ _) (by first | decide | exact bat_lt _ _)).mono ?_; rintro e w1 ⟨rfl, rfl⟩) | (go_at_call 53; refine (wb_any _ _).mono ?_; rintro e w2 ⟨rfl, hb⟩; have hcb := Cb.below hcb hb; have hbl := Below.trans hbl (Below.mono hb hbl.size); have k1 := HT1.out _ hbl; have k2 := HT2.out _ hbl) | (go_at_call 54; refine (hcb.str1 ⟨#[38, 114, 115, 113, 117, 111, 59]⟩ rsquoL rfl (by decide) (by decide)).mono ?_; rintro e w1 ⟨rfl, hc⟩))
    all_goals go_ret
    all_goals exact ⟨rfl, by simpa using hc⟩

set_option maxHeartbeats 2000000 in
theorem short2_any (F : Cfg) (B : Nat) (va : Value) (b tb t0 n c : Nat) (m : List UInt8) (prev : Int) (w : World) (h : CbIn F B va b tb t0 n m w) (u v : Int) (h1 : bat m 1 = u) (h2 : bat m 2 = v) (hv : (u = 114 ∧ v = 101) ∨ (u = 108 ∧ v = 108) ∨ (u = 118 ∧ v = 101)) (h3 : bat m 3 = 32) (hl : 3 < m.length) :
    Calls Tryd.prog 38 #[.pointer (some ⟨B, 0, none⟩), .pointer (some ⟨b, 0, none⟩), .int .u8 prev, .slice (some ⟨tb, t0, none⟩) n c] w (CbSaid F B va b rsquoL 0 w) := by
  have hln := h.text.len
  have hn6 := h.n6
  have HTl := Lib.hid (show tb < w.heap.size by obtain ⟨b', o', e, hlt, _⟩ := h.text.cells h.n1; cases e; exact hlt)
  have wb32 : wbI 32 = true := rfl
  have c1 := h.cell 1 (by omega)
  have c2 := h.cell 2 (by omega)
  have c3 := h.cell 3 (by omega)
  rw [h1] at c1
  rw [h2] at c2
  rw [h3] at c3
  have HT1 := Lib.hid (fun w' (g : Below w.heap.size w w') => (g.cell (p := ⟨tb, t0 + 1, none⟩) HTl.out).trans c1)
  have HT2 := Lib.hid (fun w' (g : Below w.heap.size w w') => (g.cell (p := ⟨tb, t0 + 2, none⟩) HTl.out).trans c2)
  have HT3 := Lib.hid (fun w' (g : Below w.heap.size w w') => (g.cell (p := ⟨tb, t0 + 3, none⟩) HTl.out).trans c3)
  have hbl := Below.refl w.heap.size w
  have hcb := h.cb
  have hn : 4 ≤ n := by omega
  have e114 : lowerN 114 = 114 := by decide
  have e101 : lowerN 101 = 101 := by decide
  have e108 : lowerN 108 = 108 := by decide
  have e118 : lowerN 118 = 118 := by decide
  clear h h1 h2 h3
  rcases hv with ⟨rfl, rfl⟩ | ⟨rfl, rfl⟩ | ⟨rfl, rfl⟩
  all_goals
    go_enter Tryd.func38, Tryd.ntmps38
    go_wp2_with (first | (go_at_call 51; refine (tolowerN_any _ _ (by first | decide | exact bat_nonneg _ _) (by first | decide | exact bat_lt _ _)).mono ?_; rintro e w1 ⟨rfl, rfl⟩) | (go_at_call 53; refine (wb_any _ _).mono ?_; rintro e w2 ⟨rfl, hb⟩; have hcb := Cb.below hcb hb; have hbl := Below.trans hbl (Below.mono hb hbl.size); have k1 := HT1.out _ hbl; have k2 := HT2.out _ hbl; have k3 := HT3.out _ hbl) | (go_at_call 54; refine (hcb.str1 ⟨#[38, 114, 115, 113, 117, 111, 59]⟩ rsquoL rfl (by decide) (by decide)).mono ?_; rintro e w1 ⟨rfl, hc⟩))
    all_goals go_ret
    all_goals exact ⟨rfl, by simpa using hc⟩

set_option maxHeartbeats 2000000 in
theorem sclose_any (F : Cfg) (B : Nat) (va : Value) (b tb t0 n c : Nat) (m : List UInt8) (prev : Int) (w : World) (h : CbIn F B va b tb t0 n m w) (h1 : bat m 1 = 32) (hl : 2 < m.length) (hp : lettI prev = true) :
    Calls Tryd.prog 38 #[.pointer (some ⟨B, 0, none⟩), .pointer (some ⟨b, 0, none⟩), .int .u8 prev, .slice (some ⟨tb, t0, none⟩) n c] w (CbSaid F B va b (quoL false 115 false) 0 w) := by
  have hln := h.text.len
  have hn6 := h.n6
  have HTl := Lib.hid (show tb < w.heap.size by obtain ⟨b', o', e, hlt, _⟩ := h.text.cells h.n1; cases e; exact hlt)
  have wb32 : wbI 32 = true := rfl
  have c1 := h.cell 1 (by omega)
  have c2 := h.cell 2 (by omega)
  rw [h1] at c1
  have HQ := Lib.hid (show hqB false prev 32 = true by unfold hqB; rw [if_neg (by decide), hp]; rfl)
  have HT1 := Lib.hid (fun w' (g : Below w.heap.size w w') => (g.cell (p := ⟨tb, t0 + 1, none⟩) HTl.out).trans c1)
  have HT2 := Lib.hid (fun w' (g : Below w.heap.size w w') => (g.cell (p := ⟨tb, t0 + 2, none⟩) HTl.out).trans c2)
  have hbl := Below.refl w.heap.size w
  have hcb := h.cb
  have hn : 3 ≤ n := by omega
  have e32 : lowerN 32 = 32 := by decide
  clear h h1 hp
  go_enter Tryd.func38, Tryd.ntmps38
  go_wp2_with (first | (go_at_call 51; refine (tolowerN_any _ _ (by first | decide | exact bat_nonneg _ _) (by first | decide | exact bat_lt _ _)).mono ?_; rintro e w1 ⟨rfl, rfl⟩) | (go_at_call 53; refine (wb_any _ _).mono ?_; rintro e w2 ⟨rfl, hb⟩; have hcb := Cb.below hcb hb; have hbl := Below.trans hbl (Below.mono hb hbl.size); have k1 := HT1.out _ hbl; have k2 := HT2.out _ hbl) | (go_at_call 52; refine (quote_any F B va b w _ [] hcb false _ _ HQ.out 115 0 (by decide) false (by simp)).mono ?_; rintro e w1 ⟨rfl, hc⟩))
  all_goals go_ret
  all_goals exact ⟨rfl, by simpa using hc⟩

set_option maxHeartbeats 2000000 in
theorem sopen_any (F : Cfg) (B : Nat) (va : Value) (b tb t0 n c : Nat) (m : List UInt8) (prev : Int) (w : World) (h : CbIn F B va b tb t0 n m w) (h1 : lettI (bat m 1) = true) (h2 : lettI (bat m 2) = true) (h3 : lettI (bat m 3) = true) (hl : 3 < m.length) (hp : edgeI prev = true) :
    Calls Tryd.prog 38 #[.pointer (some ⟨B, 0, none⟩), .pointer (some ⟨b, 0, none⟩), .int .u8 prev, .slice (some ⟨tb, t0, none⟩) n c] w (CbSaid F B va b (quoL true 115 false) 0 w) := by
  have hln := h.text.len
  have hn6 := h.n6
  have HTl := Lib.hid (show tb < w.heap.size by obtain ⟨b', o', e, hlt, _⟩ := h.text.cells h.n1; cases e; exact hlt)
  have wb32 : wbI 32 = true := rfl
  have c1 := h.cell 1 (by omega)
  have c2 := h.cell 2 (by omega)
  have c3 := h.cell 3 (by omega)
  have HQ := Lib.hid (show hqB true prev (bat m 1) = true by unfold hqB; rw [if_pos rfl, hp, h1]; rfl)
  have wbl : ∀ x : Int, lettI x = true → wbI x = false := fun x hx => by obtain ⟨n0, n1, n2⟩ := lett_facts hx; unfold wbI; rw [n0, n1, n2]; rfl
  have w2' := wbl _ h2
  have w3' := wbl _ h3
  have hall : (lowerN (bat m 1) = 115 ∨ lowerN (bat m 1) = 116 ∨ lowerN (bat m 1) = 109 ∨ lowerN (bat m 1) = 100) ∨ ((lowerN (bat m 1) = 114 ∨ lowerN (bat m 1) = 118) ∧ lowerN (bat m 2) = 101) ∨ ((lowerN (bat m 1) = 114 ∨ lowerN (bat m 1) = 118) ∧ lowerN (bat m 2) ≠ 101) ∨ (lowerN (bat m 1) = 108 ∧ lowerN (bat m 2) = 108) ∨ (lowerN (bat m 1) = 108 ∧ lowerN (bat m 2) ≠ 108) ∨ (lowerN (bat m 1) ≠ 115 ∧ lowerN (bat m 1) ≠ 116 ∧ lowerN (bat m 1) ≠ 109 ∧ lowerN (bat m 1) ≠ 100 ∧ lowerN (bat m 1) ≠ 114 ∧ lowerN (bat m 1) ≠ 118 ∧ lowerN (bat m 1) ≠ 108) := by omega
  have l39 : (lowerN (bat m 1) == 39) = false := by
    have : lowerN (bat m 1) ≠ 39 := by
      have hc := h1
      unfold lettI at hc
      simp at hc
      unfold lowerN
      split <;> omega
    simpa using this
  have HT1 := Lib.hid (fun w' (g : Below w.heap.size w w') => (g.cell (p := ⟨tb, t0 + 1, none⟩) HTl.out).trans c1)
  have HT2 := Lib.hid (fun w' (g : Below w.heap.size w w') => (g.cell (p := ⟨tb, t0 + 2, none⟩) HTl.out).trans c2)
  have HT3 := Lib.hid (fun w' (g : Below w.heap.size w w') => (g.cell (p := ⟨tb, t0 + 3, none⟩) HTl.out).trans c3)
  have hbl := Below.refl w.heap.size w
  have hcb := h.cb
  have hn : 4 ≤ n := by omega
  clear h h1 h2 h3 hp wbl
  rcases hall with (g1 | g1 | g1 | g1) | ⟨g1 | g1, g2⟩ | ⟨g1 | g1, g2⟩ | ⟨g1, g2⟩ | ⟨g1, g2⟩ | ⟨g1, g2, g3, g4, g5, g6, g7⟩
  all_goals
    go_enter Tryd.func38, Tryd.ntmps38
    go_wp2_with (first | (go_at_call 51; refine (tolowerN_any _ _ (by first | decide | exact bat_nonneg _ _) (by first | decide | exact bat_lt _ _)).mono ?_; rintro e w1 ⟨rfl, rfl⟩) | (go_at_call 53; refine (wb_any _ _).mono ?_; rintro e w2 ⟨rfl, hb⟩; have hcb := Cb.below hcb hb; have hbl := Below.trans hbl (Below.mono hb hbl.size); have k1 := HT1.out _ hbl; have k2 := HT2.out _ hbl; have k3 := HT3.out _ hbl) | (go_at_call 52; refine (quote_any F B va b w _ [] hcb true _ _ HQ.out 115 0 (by decide) false (by simp)).mono ?_; rintro e w1 ⟨rfl, hc⟩))
    all_goals go_ret
    all_goals exact ⟨rfl, by simpa using hc⟩

end Go.Proofs.YtnkjnlmghnomiaaDoor
