/- Smart punctuation: the callback of numbers (halves, quarters) walked. Condition: lengths are bounded. -/
import Derived.Test.YtnkjnlmghnomiaaDoorPanJ
namespace Go.Proofs.YtnkjnlmghnomiaaDoor
open Go.ChangeShapes Go.WideShapes Go.ChangeAt Go.RowKit

theorem dig_facts {x : Int} (h : digI x = true) : wbI x = false ∧ lowerN x = x ∧ (x == 116) = false := by
  have hc : 48 ≤ x ∧ x ≤ 57 := by
    unfold digI at h
    simpa using h
  have hp : punctI x = false := punct_no fun k hk => by
    have hb : ∀ k, k < 32 → (33 ≤ bat punctL k ∧ bat punctL k ≤ 47) ∨ 58 ≤ bat punctL k := by decide
    have := hb k hk
    simp
    omega
  refine ⟨?_, by unfold lowerN; rw [if_neg (by omega)], by simp; omega⟩
  unfold wbI spcI
  rw [hp]
  simp
  omega
theorem edge_wb {x : Int} (h : edgeI x = true) : wbI x = true ∧ (x != 47) = true := by
  have : x = 0 ∨ x = 32 := by
    unfold edgeI at h
    simpa using h
  rcases this with rfl | rfl <;> exact ⟨rfl, rfl⟩

set_option maxHeartbeats 2000000 in
set_option maxRecDepth 100000 in
theorem half_any (F : Cfg) (B : Nat) (va : Value) (b tb t0 n c : Nat) (m : List UInt8) (prev : Int) (w : World) (h : CbIn F B va b tb t0 n m w) (h0 : bat m 0 = 49) (h1 : bat m 1 = 47) (h2 : bat m 2 = 50) (h3 : bat m 3 = 32) (hl : 3 < m.length) (p1 : wbI prev = true) (p2 : (prev != 47) = true) :
    Calls Tryd.prog 43 #[.pointer (some ⟨B, 0, none⟩), .pointer (some ⟨b, 0, none⟩), .int .u8 prev, .slice (some ⟨tb, t0, none⟩) n c] w (CbSaid F B va b (fracL 49 50) 2 w) := by
  have hln := h.text.len
  have hn6 := h.n6
  have HTl := Lib.hid (show tb < w.heap.size by obtain ⟨b', o', e, hlt, _⟩ := h.text.cells h.n1; cases e; exact hlt)
  have wb32 : wbI 32 = true := rfl
  have c0 := h.cell0
  rw [h0] at c0
  have c1 := h.cell 1 (by omega)
  rw [h1] at c1
  have c2 := h.cell 2 (by omega)
  rw [h2] at c2
  have c3 := h.cell 3 (by omega)
  rw [h3] at c3
  have HT0 := Lib.hid (fun w' (g : Below w.heap.size w w') => (g.cell (p := ⟨tb, t0, none⟩) HTl.out).trans c0)
  have HT1 := Lib.hid (fun w' (g : Below w.heap.size w w') => (g.cell (p := ⟨tb, t0 + 1, none⟩) HTl.out).trans c1)
  have HT2 := Lib.hid (fun w' (g : Below w.heap.size w w') => (g.cell (p := ⟨tb, t0 + 2, none⟩) HTl.out).trans c2)
  have HT3 := Lib.hid (fun w' (g : Below w.heap.size w w') => (g.cell (p := ⟨tb, t0 + 3, none⟩) HTl.out).trans c3)
  have hbl := Below.refl w.heap.size w
  have hcb := h.cb
  have hn : 4 ≤ n := by omega
  clear h h0 h1 h2 h3
  go_enter Tryd.func43, Tryd.ntmps43
  go_wp2_with (first | (go_at_call 51; refine (tolowerN_any _ _ (bat_nonneg _ _) (bat_lt _ _)).mono ?_; rintro e w1 ⟨rfl, rfl⟩) | (go_at_call 53; refine (wb_any _ _).mono ?_; rintro e w2 ⟨rfl, hb⟩; have hcb := Cb.below hcb hb; have hbl := Below.trans hbl (Below.mono hb hbl.size); have k0 := HT0.out _ hbl; have k1 := HT1.out _ hbl; have k2 := HT2.out _ hbl; have k3 := HT3.out _ hbl) | (go_at_call 54; refine (hcb.str1 ⟨#[38, 102, 114, 97, 99, 49, 50, 59]⟩ (fracL 49 50) rfl (by decide) (by decide)).mono ?_; rintro e w1 ⟨rfl, hc⟩))
  all_goals go_ret
  all_goals exact ⟨rfl, by simpa using hc⟩

set_option maxHeartbeats 2000000 in
set_option maxRecDepth 100000 in
theorem quarter_any (F : Cfg) (B : Nat) (va : Value) (b tb t0 n c : Nat) (m : List UInt8) (prev : Int) (w : World) (h : CbIn F B va b tb t0 n m w) (h0 : bat m 0 = 49) (h1 : bat m 1 = 47) (h2 : bat m 2 = 52) (h3 : bat m 3 = 32) (hl : 3 < m.length) (p1 : wbI prev = true) (p2 : (prev != 47) = true) :
    Calls Tryd.prog 43 #[.pointer (some ⟨B, 0, none⟩), .pointer (some ⟨b, 0, none⟩), .int .u8 prev, .slice (some ⟨tb, t0, none⟩) n c] w (CbSaid F B va b (fracL 49 52) 2 w) := by
  have hln := h.text.len
  have hn6 := h.n6
  have HTl := Lib.hid (show tb < w.heap.size by obtain ⟨b', o', e, hlt, _⟩ := h.text.cells h.n1; cases e; exact hlt)
  have wb32 : wbI 32 = true := rfl
  have c0 := h.cell0
  rw [h0] at c0
  have c1 := h.cell 1 (by omega)
  rw [h1] at c1
  have c2 := h.cell 2 (by omega)
  rw [h2] at c2
  have c3 := h.cell 3 (by omega)
  rw [h3] at c3
  have HT0 := Lib.hid (fun w' (g : Below w.heap.size w w') => (g.cell (p := ⟨tb, t0, none⟩) HTl.out).trans c0)
  have HT1 := Lib.hid (fun w' (g : Below w.heap.size w w') => (g.cell (p := ⟨tb, t0 + 1, none⟩) HTl.out).trans c1)
  have HT2 := Lib.hid (fun w' (g : Below w.heap.size w w') => (g.cell (p := ⟨tb, t0 + 2, none⟩) HTl.out).trans c2)
  have HT3 := Lib.hid (fun w' (g : Below w.heap.size w w') => (g.cell (p := ⟨tb, t0 + 3, none⟩) HTl.out).trans c3)
  have hbl := Below.refl w.heap.size w
  have hcb := h.cb
  have hn : 4 ≤ n := by omega
  clear h h0 h1 h2 h3
  go_enter Tryd.func43, Tryd.ntmps43
  go_wp2_with (first | (go_at_call 51; refine (tolowerN_any _ _ (bat_nonneg _ _) (bat_lt _ _)).mono ?_; rintro e w1 ⟨rfl, rfl⟩) | (go_at_call 53; refine (wb_any _ _).mono ?_; rintro e w2 ⟨rfl, hb⟩; have hcb := Cb.below hcb hb; have hbl := Below.trans hbl (Below.mono hb hbl.size); have k0 := HT0.out _ hbl; have k1 := HT1.out _ hbl; have k2 := HT2.out _ hbl; have k3 := HT3.out _ hbl) | (go_at_call 54; refine (hcb.str1 ⟨#[38, 102, 114, 97, 99, 49, 52, 59]⟩ (fracL 49 52) rfl (by decide) (by decide)).mono ?_; rintro e w1 ⟨rfl, hc⟩))
  all_goals go_ret
  all_goals exact ⟨rfl, by simpa using hc⟩

set_option maxHeartbeats 2000000 in
set_option maxRecDepth 100000 in
theorem three_any (F : Cfg) (B : Nat) (va : Value) (b tb t0 n c : Nat) (m : List UInt8) (prev : Int) (w : World) (h : CbIn F B va b tb t0 n m w) (h0 : bat m 0 = 51) (h1 : bat m 1 = 47) (h2 : bat m 2 = 52) (h3 : bat m 3 = 32) (hl : 3 < m.length) (p1 : wbI prev = true) (p2 : (prev != 47) = true) :
    Calls Tryd.prog 43 #[.pointer (some ⟨B, 0, none⟩), .pointer (some ⟨b, 0, none⟩), .int .u8 prev, .slice (some ⟨tb, t0, none⟩) n c] w (CbSaid F B va b (fracL 51 52) 2 w) := by
  have hln := h.text.len
  have hn6 := h.n6
  have HTl := Lib.hid (show tb < w.heap.size by obtain ⟨b', o', e, hlt, _⟩ := h.text.cells h.n1; cases e; exact hlt)
  have wb32 : wbI 32 = true := rfl
  have c0 := h.cell0
  rw [h0] at c0
  have c1 := h.cell 1 (by omega)
  rw [h1] at c1
  have c2 := h.cell 2 (by omega)
  rw [h2] at c2
  have c3 := h.cell 3 (by omega)
  rw [h3] at c3
  have HT0 := Lib.hid (fun w' (g : Below w.heap.size w w') => (g.cell (p := ⟨tb, t0, none⟩) HTl.out).trans c0)
  have HT1 := Lib.hid (fun w' (g : Below w.heap.size w w') => (g.cell (p := ⟨tb, t0 + 1, none⟩) HTl.out).trans c1)
  have HT2 := Lib.hid (fun w' (g : Below w.heap.size w w') => (g.cell (p := ⟨tb, t0 + 2, none⟩) HTl.out).trans c2)
  have HT3 := Lib.hid (fun w' (g : Below w.heap.size w w') => (g.cell (p := ⟨tb, t0 + 3, none⟩) HTl.out).trans c3)
  have hbl := Below.refl w.heap.size w
  have hcb := h.cb
  have hn : 4 ≤ n := by omega
  clear h h0 h1 h2 h3
  go_enter Tryd.func43, Tryd.ntmps43
  go_wp2_with (first | (go_at_call 51; refine (tolowerN_any _ _ (bat_nonneg _ _) (bat_lt _ _)).mono ?_; rintro e w1 ⟨rfl, rfl⟩) | (go_at_call 53; refine (wb_any _ _).mono ?_; rintro e w2 ⟨rfl, hb⟩; have hcb := Cb.below hcb hb; have hbl := Below.trans hbl (Below.mono hb hbl.size); have k0 := HT0.out _ hbl; have k1 := HT1.out _ hbl; have k2 := HT2.out _ hbl; have k3 := HT3.out _ hbl) | (go_at_call 54; refine (hcb.str1 ⟨#[38, 102, 114, 97, 99, 51, 52, 59]⟩ (fracL 51 52) rfl (by decide) (by decide)).mono ?_; rintro e w1 ⟨rfl, hc⟩))
  all_goals go_ret
  all_goals exact ⟨rfl, by simpa using hc⟩

set_option maxHeartbeats 2000000 in
set_option maxRecDepth 100000 in
theorem num1s49_any (F : Cfg) (B : Nat) (va : Value) (b tb t0 n c : Nat) (m : List UInt8) (prev : Int) (w : World) (h : CbIn F B va b tb t0 n m w) (h0 : bat m 0 = 49) (hl : 0 < m.length) (p2 : (prev != 47) = false) (p1 : wbI prev = true) :
    Calls Tryd.prog 43 #[.pointer (some ⟨B, 0, none⟩), .pointer (some ⟨b, 0, none⟩), .int .u8 prev, .slice (some ⟨tb, t0, none⟩) n c] w (CbSaid F B va b [49] 0 w) := by
  have hln := h.text.len
  have hn6 := h.n6
  have HTl := Lib.hid (show tb < w.heap.size by obtain ⟨b', o', e, hlt, _⟩ := h.text.cells h.n1; cases e; exact hlt)
  have wb32 : wbI 32 = true := rfl
  have c0 := h.cell0
  rw [h0] at c0
  have HT0 := Lib.hid (fun w' (g : Below w.heap.size w w') => (g.cell (p := ⟨tb, t0, none⟩) HTl.out).trans c0)
  have hbl := Below.refl w.heap.size w
  have hcb := h.cb
  have hn : 1 ≤ n := by omega
  clear h h0
  go_enter Tryd.func43, Tryd.ntmps43
  go_wp2_with (first | (go_at_call 51; refine (tolowerN_any _ _ (bat_nonneg _ _) (bat_lt _ _)).mono ?_; rintro e w1 ⟨rfl, rfl⟩) | (go_at_call 53; refine (wb_any _ _).mono ?_; rintro e w2 ⟨rfl, hb⟩; have hcb := Cb.below hcb hb; have hbl := Below.trans hbl (Below.mono hb hbl.size); have k0 := HT0.out _ hbl) | (go_at_call 55; refine (hcb.byte1 49 49 rfl).mono ?_; rintro e w1 ⟨rfl, hc⟩))
  all_goals go_ret
  all_goals exact ⟨rfl, by simpa using hc⟩

set_option maxHeartbeats 2000000 in
set_option maxRecDepth 100000 in
theorem num1d49_any (F : Cfg) (B : Nat) (va : Value) (b tb t0 n c : Nat) (m : List UInt8) (prev : Int) (w : World) (h : CbIn F B va b tb t0 n m w) (h0 : bat m 0 = 49) (hl : 0 < m.length) (p1 : wbI prev = false) :
    Calls Tryd.prog 43 #[.pointer (some ⟨B, 0, none⟩), .pointer (some ⟨b, 0, none⟩), .int .u8 prev, .slice (some ⟨tb, t0, none⟩) n c] w (CbSaid F B va b [49] 0 w) := by
  have hln := h.text.len
  have hn6 := h.n6
  have HTl := Lib.hid (show tb < w.heap.size by obtain ⟨b', o', e, hlt, _⟩ := h.text.cells h.n1; cases e; exact hlt)
  have wb32 : wbI 32 = true := rfl
  have c0 := h.cell0
  rw [h0] at c0
  have HT0 := Lib.hid (fun w' (g : Below w.heap.size w w') => (g.cell (p := ⟨tb, t0, none⟩) HTl.out).trans c0)
  have hbl := Below.refl w.heap.size w
  have hcb := h.cb
  have hn : 1 ≤ n := by omega
  clear h h0
  go_enter Tryd.func43, Tryd.ntmps43
  go_wp2_with (first | (go_at_call 51; refine (tolowerN_any _ _ (bat_nonneg _ _) (bat_lt _ _)).mono ?_; rintro e w1 ⟨rfl, rfl⟩) | (go_at_call 53; refine (wb_any _ _).mono ?_; rintro e w2 ⟨rfl, hb⟩; have hcb := Cb.below hcb hb; have hbl := Below.trans hbl (Below.mono hb hbl.size); have k0 := HT0.out _ hbl) | (go_at_call 55; refine (hcb.byte1 49 49 rfl).mono ?_; rintro e w1 ⟨rfl, hc⟩))
  all_goals go_ret
  all_goals exact ⟨rfl, by simpa using hc⟩

set_option maxHeartbeats 2000000 in
set_option maxRecDepth 100000 in
theorem num2n49_any (F : Cfg) (B : Nat) (va : Value) (b tb t0 n c : Nat) (m : List UInt8) (prev : Int) (w : World) (h : CbIn F B va b tb t0 n m w) (h0 : bat m 0 = 49) (h1_47 : bat m 1 ≠ 47) (hl : 3 < m.length) (p1 : wbI prev = true) (p2 : (prev != 47) = true) :
    Calls Tryd.prog 43 #[.pointer (some ⟨B, 0, none⟩), .pointer (some ⟨b, 0, none⟩), .int .u8 prev, .slice (some ⟨tb, t0, none⟩) n c] w (CbSaid F B va b [49] 0 w) := by
  have hln := h.text.len
  have hn6 := h.n6
  have HTl := Lib.hid (show tb < w.heap.size by obtain ⟨b', o', e, hlt, _⟩ := h.text.cells h.n1; cases e; exact hlt)
  have wb32 : wbI 32 = true := rfl
  have c0 := h.cell0
  rw [h0] at c0
  have c1 := h.cell 1 (by omega)
  have q1_47 := beqF h1_47
  have HT0 := Lib.hid (fun w' (g : Below w.heap.size w w') => (g.cell (p := ⟨tb, t0, none⟩) HTl.out).trans c0)
  have HT1 := Lib.hid (fun w' (g : Below w.heap.size w w') => (g.cell (p := ⟨tb, t0 + 1, none⟩) HTl.out).trans c1)
  have hbl := Below.refl w.heap.size w
  have hcb := h.cb
  have hn : 4 ≤ n := by omega
  clear h h0 h1_47
  go_enter Tryd.func43, Tryd.ntmps43
  go_wp2_with (first | (go_at_call 51; refine (tolowerN_any _ _ (bat_nonneg _ _) (bat_lt _ _)).mono ?_; rintro e w1 ⟨rfl, rfl⟩) | (go_at_call 53; refine (wb_any _ _).mono ?_; rintro e w2 ⟨rfl, hb⟩; have hcb := Cb.below hcb hb; have hbl := Below.trans hbl (Below.mono hb hbl.size); have k0 := HT0.out _ hbl; have k1 := HT1.out _ hbl) | (go_at_call 55; refine (hcb.byte1 49 49 rfl).mono ?_; rintro e w1 ⟨rfl, hc⟩))
  all_goals go_ret
  all_goals exact ⟨rfl, by simpa using hc⟩

set_option maxHeartbeats 2000000 in
set_option maxRecDepth 100000 in
theorem num2a49_any (F : Cfg) (B : Nat) (va : Value) (b tb t0 n c : Nat) (m : List UInt8) (prev : Int) (w : World) (h : CbIn F B va b tb t0 n m w) (h0 : bat m 0 = 49) (h1 : bat m 1 = 47) (h2_50 : bat m 2 ≠ 50) (h2_52 : bat m 2 ≠ 52) (hl : 3 < m.length) (p1 : wbI prev = true) (p2 : (prev != 47) = true) :
    Calls Tryd.prog 43 #[.pointer (some ⟨B, 0, none⟩), .pointer (some ⟨b, 0, none⟩), .int .u8 prev, .slice (some ⟨tb, t0, none⟩) n c] w (CbSaid F B va b [49] 0 w) := by
  have hln := h.text.len
  have hn6 := h.n6
  have HTl := Lib.hid (show tb < w.heap.size by obtain ⟨b', o', e, hlt, _⟩ := h.text.cells h.n1; cases e; exact hlt)
  have wb32 : wbI 32 = true := rfl
  have c0 := h.cell0
  rw [h0] at c0
  have c1 := h.cell 1 (by omega)
  rw [h1] at c1
  have c2 := h.cell 2 (by omega)
  have q2_50 := beqF h2_50
  have q2_52 := beqF h2_52
  have HT0 := Lib.hid (fun w' (g : Below w.heap.size w w') => (g.cell (p := ⟨tb, t0, none⟩) HTl.out).trans c0)
  have HT1 := Lib.hid (fun w' (g : Below w.heap.size w w') => (g.cell (p := ⟨tb, t0 + 1, none⟩) HTl.out).trans c1)
  have HT2 := Lib.hid (fun w' (g : Below w.heap.size w w') => (g.cell (p := ⟨tb, t0 + 2, none⟩) HTl.out).trans c2)
  have hbl := Below.refl w.heap.size w
  have hcb := h.cb
  have hn : 4 ≤ n := by omega
  clear h h0 h1 h2_50 h2_52
  go_enter Tryd.func43, Tryd.ntmps43
  go_wp2_with (first | (go_at_call 51; refine (tolowerN_any _ _ (bat_nonneg _ _) (bat_lt _ _)).mono ?_; rintro e w1 ⟨rfl, rfl⟩) | (go_at_call 53; refine (wb_any _ _).mono ?_; rintro e w2 ⟨rfl, hb⟩; have hcb := Cb.below hcb hb; have hbl := Below.trans hbl (Below.mono hb hbl.size); have k0 := HT0.out _ hbl; have k1 := HT1.out _ hbl; have k2 := HT2.out _ hbl) | (go_at_call 55; refine (hcb.byte1 49 49 rfl).mono ?_; rintro e w1 ⟨rfl, hc⟩))
  all_goals go_ret
  all_goals exact ⟨rfl, by simpa using hc⟩

set_option maxHeartbeats 2000000 in
set_option maxRecDepth 100000 in
theorem num2d4950_any (F : Cfg) (B : Nat) (va : Value) (b tb t0 n c : Nat) (m : List UInt8) (prev : Int) (w : World) (h : CbIn F B va b tb t0 n m w) (h0 : bat m 0 = 49) (h1 : bat m 1 = 47) (h2 : bat m 2 = 50) (h3 : digI (bat m 3) = true) (hl : 3 < m.length) (p1 : wbI prev = true) (p2 : (prev != 47) = true) :
    Calls Tryd.prog 43 #[.pointer (some ⟨B, 0, none⟩), .pointer (some ⟨b, 0, none⟩), .int .u8 prev, .slice (some ⟨tb, t0, none⟩) n c] w (CbSaid F B va b [49] 0 w) := by
  have hln := h.text.len
  have hn6 := h.n6
  have HTl := Lib.hid (show tb < w.heap.size by obtain ⟨b', o', e, hlt, _⟩ := h.text.cells h.n1; cases e; exact hlt)
  have wb32 : wbI 32 = true := rfl
  have c0 := h.cell0
  rw [h0] at c0
  have c1 := h.cell 1 (by omega)
  rw [h1] at c1
  have c2 := h.cell 2 (by omega)
  rw [h2] at c2
  have c3 := h.cell 3 (by omega)
  obtain ⟨d1, d2, d3⟩ := dig_facts h3
  have HT0 := Lib.hid (fun w' (g : Below w.heap.size w w') => (g.cell (p := ⟨tb, t0, none⟩) HTl.out).trans c0)
  have HT1 := Lib.hid (fun w' (g : Below w.heap.size w w') => (g.cell (p := ⟨tb, t0 + 1, none⟩) HTl.out).trans c1)
  have HT2 := Lib.hid (fun w' (g : Below w.heap.size w w') => (g.cell (p := ⟨tb, t0 + 2, none⟩) HTl.out).trans c2)
  have HT3 := Lib.hid (fun w' (g : Below w.heap.size w w') => (g.cell (p := ⟨tb, t0 + 3, none⟩) HTl.out).trans c3)
  have hbl := Below.refl w.heap.size w
  have hcb := h.cb
  have hn : 4 ≤ n := by omega
  clear h h0 h1 h2 h3
  go_enter Tryd.func43, Tryd.ntmps43
  go_wp2_with (first | (go_at_call 51; refine (tolowerN_any _ _ (bat_nonneg _ _) (bat_lt _ _)).mono ?_; rintro e w1 ⟨rfl, rfl⟩) | (go_at_call 53; refine (wb_any _ _).mono ?_; rintro e w2 ⟨rfl, hb⟩; have hcb := Cb.below hcb hb; have hbl := Below.trans hbl (Below.mono hb hbl.size); have k0 := HT0.out _ hbl; have k1 := HT1.out _ hbl; have k2 := HT2.out _ hbl; have k3 := HT3.out _ hbl) | (go_at_call 55; refine (hcb.byte1 49 49 rfl).mono ?_; rintro e w1 ⟨rfl, hc⟩))
  all_goals go_ret
  all_goals exact ⟨rfl, by simpa using hc⟩

set_option maxHeartbeats 2000000 in
set_option maxRecDepth 100000 in
theorem num2d4952_any (F : Cfg) (B : Nat) (va : Value) (b tb t0 n c : Nat) (m : List UInt8) (prev : Int) (w : World) (h : CbIn F B va b tb t0 n m w) (h0 : bat m 0 = 49) (h1 : bat m 1 = 47) (h2 : bat m 2 = 52) (h3 : digI (bat m 3) = true) (hl : 3 < m.length) (p1 : wbI prev = true) (p2 : (prev != 47) = true) :
    Calls Tryd.prog 43 #[.pointer (some ⟨B, 0, none⟩), .pointer (some ⟨b, 0, none⟩), .int .u8 prev, .slice (some ⟨tb, t0, none⟩) n c] w (CbSaid F B va b [49] 0 w) := by
  have hln := h.text.len
  have hn6 := h.n6
  have HTl := Lib.hid (show tb < w.heap.size by obtain ⟨b', o', e, hlt, _⟩ := h.text.cells h.n1; cases e; exact hlt)
  have wb32 : wbI 32 = true := rfl
  have c0 := h.cell0
  rw [h0] at c0
  have c1 := h.cell 1 (by omega)
  rw [h1] at c1
  have c2 := h.cell 2 (by omega)
  rw [h2] at c2
  have c3 := h.cell 3 (by omega)
  obtain ⟨d1, d2, d3⟩ := dig_facts h3
  have HT0 := Lib.hid (fun w' (g : Below w.heap.size w w') => (g.cell (p := ⟨tb, t0, none⟩) HTl.out).trans c0)
  have HT1 := Lib.hid (fun w' (g : Below w.heap.size w w') => (g.cell (p := ⟨tb, t0 + 1, none⟩) HTl.out).trans c1)
  have HT2 := Lib.hid (fun w' (g : Below w.heap.size w w') => (g.cell (p := ⟨tb, t0 + 2, none⟩) HTl.out).trans c2)
  have HT3 := Lib.hid (fun w' (g : Below w.heap.size w w') => (g.cell (p := ⟨tb, t0 + 3, none⟩) HTl.out).trans c3)
  have hbl := Below.refl w.heap.size w
  have hcb := h.cb
  have hn : 4 ≤ n := by omega
  clear h h0 h1 h2 h3
  go_enter Tryd.func43, Tryd.ntmps43
  go_wp2_with (first | (go_at_call 51; refine (tolowerN_any _ _ (bat_nonneg _ _) (bat_lt _ _)).mono ?_; rintro e w1 ⟨rfl, rfl⟩) | (go_at_call 53; refine (wb_any _ _).mono ?_; rintro e w2 ⟨rfl, hb⟩; have hcb := Cb.below hcb hb; have hbl := Below.trans hbl (Below.mono hb hbl.size); have k0 := HT0.out _ hbl; have k1 := HT1.out _ hbl; have k2 := HT2.out _ hbl; have k3 := HT3.out _ hbl) | (go_at_call 55; refine (hcb.byte1 49 49 rfl).mono ?_; rintro e w1 ⟨rfl, hc⟩))
  all_goals go_ret
  all_goals exact ⟨rfl, by simpa using hc⟩

set_option maxHeartbeats 2000000 in
set_option maxRecDepth 100000 in
theorem num1s51_any (F : Cfg) (B : Nat) (va : Value) (b tb t0 n c : Nat) (m : List UInt8) (prev : Int) (w : World) (h : CbIn F B va b tb t0 n m w) (h0 : bat m 0 = 51) (hl : 0 < m.length) (p2 : (prev != 47) = false) (p1 : wbI prev = true) :
    Calls Tryd.prog 43 #[.pointer (some ⟨B, 0, none⟩), .pointer (some ⟨b, 0, none⟩), .int .u8 prev, .slice (some ⟨tb, t0, none⟩) n c] w (CbSaid F B va b [51] 0 w) := by
  have hln := h.text.len
  have hn6 := h.n6
  have HTl := Lib.hid (show tb < w.heap.size by obtain ⟨b', o', e, hlt, _⟩ := h.text.cells h.n1; cases e; exact hlt)
  have wb32 : wbI 32 = true := rfl
  have c0 := h.cell0
  rw [h0] at c0
  have HT0 := Lib.hid (fun w' (g : Below w.heap.size w w') => (g.cell (p := ⟨tb, t0, none⟩) HTl.out).trans c0)
  have hbl := Below.refl w.heap.size w
  have hcb := h.cb
  have hn : 1 ≤ n := by omega
  clear h h0
  go_enter Tryd.func43, Tryd.ntmps43
  go_wp2_with (first | (go_at_call 51; refine (tolowerN_any _ _ (bat_nonneg _ _) (bat_lt _ _)).mono ?_; rintro e w1 ⟨rfl, rfl⟩) | (go_at_call 53; refine (wb_any _ _).mono ?_; rintro e w2 ⟨rfl, hb⟩; have hcb := Cb.below hcb hb; have hbl := Below.trans hbl (Below.mono hb hbl.size); have k0 := HT0.out _ hbl) | (go_at_call 55; refine (hcb.byte1 51 51 rfl).mono ?_; rintro e w1 ⟨rfl, hc⟩))
  all_goals go_ret
  all_goals exact ⟨rfl, by simpa using hc⟩

set_option maxHeartbeats 2000000 in
set_option maxRecDepth 100000 in
theorem num1d51_any (F : Cfg) (B : Nat) (va : Value) (b tb t0 n c : Nat) (m : List UInt8) (prev : Int) (w : World) (h : CbIn F B va b tb t0 n m w) (h0 : bat m 0 = 51) (hl : 0 < m.length) (p1 : wbI prev = false) :
    Calls Tryd.prog 43 #[.pointer (some ⟨B, 0, none⟩), .pointer (some ⟨b, 0, none⟩), .int .u8 prev, .slice (some ⟨tb, t0, none⟩) n c] w (CbSaid F B va b [51] 0 w) := by
  have hln := h.text.len
  have hn6 := h.n6
  have HTl := Lib.hid (show tb < w.heap.size by obtain ⟨b', o', e, hlt, _⟩ := h.text.cells h.n1; cases e; exact hlt)
  have wb32 : wbI 32 = true := rfl
  have c0 := h.cell0
  rw [h0] at c0
  have HT0 := Lib.hid (fun w' (g : Below w.heap.size w w') => (g.cell (p := ⟨tb, t0, none⟩) HTl.out).trans c0)
  have hbl := Below.refl w.heap.size w
  have hcb := h.cb
  have hn : 1 ≤ n := by omega
  clear h h0
  go_enter Tryd.func43, Tryd.ntmps43
  go_wp2_with (first | (go_at_call 51; refine (tolowerN_any _ _ (bat_nonneg _ _) (bat_lt _ _)).mono ?_; rintro e w1 ⟨rfl, rfl⟩) | (go_at_call 53; refine (wb_any _ _).mono ?_; rintro e w2 ⟨rfl, hb⟩; have hcb := Cb.below hcb hb; have hbl := Below.trans hbl (Below.mono hb hbl.size); have k0 := HT0.out _ hbl) | (go_at_call 55; refine (hcb.byte1 51 51 rfl).mono ?_; rintro e w1 ⟨rfl, hc⟩))
  all_goals go_ret
  all_goals exact ⟨rfl, by simpa using hc⟩

set_option maxHeartbeats 2000000 in
set_option maxRecDepth 100000 in
theorem num2n51_any (F : Cfg) (B : Nat) (va : Value) (b tb t0 n c : Nat) (m : List UInt8) (prev : Int) (w : World) (h : CbIn F B va b tb t0 n m w) (h0 : bat m 0 = 51) (h1_47 : bat m 1 ≠ 47) (hl : 3 < m.length) (p1 : wbI prev = true) (p2 : (prev != 47) = true) :
    Calls Tryd.prog 43 #[.pointer (some ⟨B, 0, none⟩), .pointer (some ⟨b, 0, none⟩), .int .u8 prev, .slice (some ⟨tb, t0, none⟩) n c] w (CbSaid F B va b [51] 0 w) := by
  have hln := h.text.len
  have hn6 := h.n6
  have HTl := Lib.hid (show tb < w.heap.size by obtain ⟨b', o', e, hlt, _⟩ := h.text.cells h.n1; cases e; exact hlt)
  have wb32 : wbI 32 = true := rfl
  have c0 := h.cell0
  rw [h0] at c0
  have c1 := h.cell 1 (by omega)
  have q1_47 := beqF h1_47
  have HT0 := Lib.hid (fun w' (g : Below w.heap.size w w') => (g.cell (p := ⟨tb, t0, none⟩) HTl.out).trans c0)
  have HT1 := Lib.hid (fun w' (g : Below w.heap.size w w') => (g.cell (p := ⟨tb, t0 + 1, none⟩) HTl.out).trans c1)
  have hbl := Below.refl w.heap.size w
  have hcb := h.cb
  have hn : 4 ≤ n := by omega
  clear h h0 h1_47
  go_enter Tryd.func43, Tryd.ntmps43
  go_wp2_with (first | (go_at_call 51; refine (tolowerN_any _ _ (bat_nonneg _ _) (bat_lt _ _)).mono ?_; rintro e w1 ⟨rfl, rfl⟩) | (go_at_call 53; refine (wb_any _ _).mono ?_; rintro e w2 ⟨rfl, hb⟩; have hcb := Cb.below hcb hb; have hbl := Below.trans hbl (Below.mono hb hbl.size); have k0 := HT0.out _ hbl; have k1 := HT1.out _ hbl) | (go_at_call 55; refine (hcb.byte1 51 51 rfl).mono ?_; rintro e w1 ⟨rfl, hc⟩))
  all_goals go_ret
  all_goals exact ⟨rfl, by simpa using hc⟩

set_option maxHeartbeats 2000000 in
set_option maxRecDepth 100000 in
theorem num2a51_any (F : Cfg) (B : Nat) (va : Value) (b tb t0 n c : Nat) (m : List UInt8) (prev : Int) (w : World) (h : CbIn F B va b tb t0 n m w) (h0 : bat m 0 = 51) (h1 : bat m 1 = 47) (h2_52 : bat m 2 ≠ 52) (hl : 3 < m.length) (p1 : wbI prev = true) (p2 : (prev != 47) = true) :
    Calls Tryd.prog 43 #[.pointer (some ⟨B, 0, none⟩), .pointer (some ⟨b, 0, none⟩), .int .u8 prev, .slice (some ⟨tb, t0, none⟩) n c] w (CbSaid F B va b [51] 0 w) := by
  have hln := h.text.len
  have hn6 := h.n6
  have HTl := Lib.hid (show tb < w.heap.size by obtain ⟨b', o', e, hlt, _⟩ := h.text.cells h.n1; cases e; exact hlt)
  have wb32 : wbI 32 = true := rfl
  have c0 := h.cell0
  rw [h0] at c0
  have c1 := h.cell 1 (by omega)
  rw [h1] at c1
  have c2 := h.cell 2 (by omega)
  have q2_52 := beqF h2_52
  have HT0 := Lib.hid (fun w' (g : Below w.heap.size w w') => (g.cell (p := ⟨tb, t0, none⟩) HTl.out).trans c0)
  have HT1 := Lib.hid (fun w' (g : Below w.heap.size w w') => (g.cell (p := ⟨tb, t0 + 1, none⟩) HTl.out).trans c1)
  have HT2 := Lib.hid (fun w' (g : Below w.heap.size w w') => (g.cell (p := ⟨tb, t0 + 2, none⟩) HTl.out).trans c2)
  have hbl := Below.refl w.heap.size w
  have hcb := h.cb
  have hn : 4 ≤ n := by omega
  clear h h0 h1 h2_52
  go_enter Tryd.func43, Tryd.ntmps43
  go_wp2_with (first | (go_at_call 51; refine (tolowerN_any _ _ (bat_nonneg _ _) (bat_lt _ _)).mono ?_; rintro e w1 ⟨rfl, rfl⟩) | (go_at_call 53; refine (wb_any _ _).mono ?_; rintro e w2 ⟨rfl, hb⟩; have hcb := Cb.below hcb hb; have hbl := Below.trans hbl (Below.mono hb hbl.size); have k0 := HT0.out _ hbl; have k1 := HT1.out _ hbl; have k2 := HT2.out _ hbl) | (go_at_call 55; refine (hcb.byte1 51 51 rfl).mono ?_; rintro e w1 ⟨rfl, hc⟩))
  all_goals go_ret
  all_goals exact ⟨rfl, by simpa using hc⟩

set_option maxHeartbeats 2000000 in
set_option maxRecDepth 100000 in
theorem num2d51_any (F : Cfg) (B : Nat) (va : Value) (b tb t0 n c : Nat) (m : List UInt8) (prev : Int) (w : World) (h : CbIn F B va b tb t0 n m w) (h0 : bat m 0 = 51) (h1 : bat m 1 = 47) (h2 : bat m 2 = 52) (h3 : digI (bat m 3) = true) (hl : 3 < m.length) (p1 : wbI prev = true) (p2 : (prev != 47) = true) :
    Calls Tryd.prog 43 #[.pointer (some ⟨B, 0, none⟩), .pointer (some ⟨b, 0, none⟩), .int .u8 prev, .slice (some ⟨tb, t0, none⟩) n c] w (CbSaid F B va b [51] 0 w) := by
  have hln := h.text.len
  have hn6 := h.n6
  have HTl := Lib.hid (show tb < w.heap.size by obtain ⟨b', o', e, hlt, _⟩ := h.text.cells h.n1; cases e; exact hlt)
  have wb32 : wbI 32 = true := rfl
  have c0 := h.cell0
  rw [h0] at c0
  have c1 := h.cell 1 (by omega)
  rw [h1] at c1
  have c2 := h.cell 2 (by omega)
  rw [h2] at c2
  have c3 := h.cell 3 (by omega)
  obtain ⟨d1, d2, d3⟩ := dig_facts h3
  have HT0 := Lib.hid (fun w' (g : Below w.heap.size w w') => (g.cell (p := ⟨tb, t0, none⟩) HTl.out).trans c0)
  have HT1 := Lib.hid (fun w' (g : Below w.heap.size w w') => (g.cell (p := ⟨tb, t0 + 1, none⟩) HTl.out).trans c1)
  have HT2 := Lib.hid (fun w' (g : Below w.heap.size w w') => (g.cell (p := ⟨tb, t0 + 2, none⟩) HTl.out).trans c2)
  have HT3 := Lib.hid (fun w' (g : Below w.heap.size w w') => (g.cell (p := ⟨tb, t0 + 3, none⟩) HTl.out).trans c3)
  have hbl := Below.refl w.heap.size w
  have hcb := h.cb
  have hn : 4 ≤ n := by omega
  clear h h0 h1 h2 h3
  go_enter Tryd.func43, Tryd.ntmps43
  go_wp2_with (first | (go_at_call 51; refine (tolowerN_any _ _ (bat_nonneg _ _) (bat_lt _ _)).mono ?_; rintro e w1 ⟨rfl, rfl⟩) | (go_at_call 53; refine (wb_any _ _).mono ?_; rintro e w2 ⟨rfl, hb⟩; have hcb := Cb.below hcb hb; have hbl := Below.trans hbl (Below.mono hb hbl.size); have k0 := HT0.out _ hbl; have k1 := HT1.out _ hbl; have k2 := HT2.out _ hbl; have k3 := HT3.out _ hbl) | (go_at_call 55; refine (hcb.byte1 51 51 rfl).mono ?_; rintro e w1 ⟨rfl, hc⟩))
  all_goals go_ret
  all_goals exact ⟨rfl, by simpa using hc⟩

end Go.Proofs.YtnkjnlmghnomiaaDoor
