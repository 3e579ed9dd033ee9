/- Smart punctuation: the callbacks of periods, hyphens, parentheses, backquotes walked. Condition: lengths are bounded. -/
import Derived.Test.YtnkjnlmghnomiaaDoorPanH
namespace Go.Proofs.YtnkjnlmghnomiaaDoor
open Go.ChangeShapes Go.WideShapes Go.ChangeAt Go.RowKit

/-- what a callback is handed -/
structure CbIn (F : Cfg) (B : Nat) (va : Value) (b tb t0 n : Nat) (m : List UInt8) (w : World) : Prop where
  cb : Cb F B va b w w []
  text : Bs w (some ⟨tb, t0, none⟩) n m
  tB : tb ≠ B
  tb' : tb ≠ b
  n1 : 0 < n
  n6 : n ≤ 1000000
theorem CbIn.cell {F : Cfg} {B : Nat} {va : Value} {b tb t0 n : Nat} {m : List UInt8} {w : World} (h : CbIn F B va b tb t0 n m w) (i : Nat) (hi : i < m.length) : w.cell? ⟨tb, t0 + i, none⟩ = some (.int .u8 (bat m i)) := by
  obtain ⟨b', o', e, _, hc⟩ := h.text.cells h.n1
  cases e
  exact hc i (by rw [← h.text.len]; exact hi)
theorem CbIn.cell0 {F : Cfg} {B : Nat} {va : Value} {b tb t0 n : Nat} {m : List UInt8} {w : World} (h : CbIn F B va b tb t0 n m w) : w.cell? ⟨tb, t0, none⟩ = some (.int .u8 (bat m 0)) := h.cell 0 (by rw [h.text.len]; exact h.n1)
theorem beqT {a b : Int} (h : a = b) : (a == b) = true := by simpa using h
theorem beqF {a b : Int} (h : a ≠ b) : (a == b) = false := by simpa using h
theorem getD_bat (m : List UInt8) : [m.getD 0 0] = [m.getD 0 0] := rfl

/-- a text is written, and so many bytes more are taken -/
theorem Cb.str0 {F : Cfg} {B : Nat} {va : Value} {b : Nat} {w : World} (h : Cb F B va b w w []) (s : ByteArray) (m : List UInt8) (hm : s.data.toList = m) (hs : 1 ≤ m.length) (hl : m.length ≤ 1000) :
    Calls Tryd.prog 54 #[.pointer (some ⟨b, 0, none⟩), .string s] w fun e w' => e = .returned (.tuple #[.int .i64 s.size, .nilIface]) ∧ Cb F B va b w w' m := by
  have := h.str s m hm hs (by simp; omega)
  simpa using this
theorem Cb.byte0 {F : Cfg} {B : Nat} {va : Value} {b : Nat} {w : World} (h : Cb F B va b w w []) (c : UInt8) (n : Int) (hc : (c.toNat : Int) = n) :
    Calls Tryd.prog 55 #[.pointer (some ⟨b, 0, none⟩), .int .u8 n] w fun e w' => e = .returned .nilIface ∧ Cb F B va b w w' [c] := by
  have := h.byte c n hc (by simp)
  simpa using this

theorem Cb.str1 {F : Cfg} {B : Nat} {va : Value} {b : Nat} {w0 w : World} (h : Cb F B va b w0 w []) (s : ByteArray) (m : List UInt8) (hm : s.data.toList = m) (hs : 1 ≤ m.length) (hl : m.length ≤ 1000) :
    Calls Tryd.prog 54 #[.pointer (some ⟨b, 0, none⟩), .string s] w fun e w' => e = .returned (.tuple #[.int .i64 s.size, .nilIface]) ∧ Cb F B va b w0 w' m := by
  have := h.str s m hm hs (by simp; omega)
  simpa using this
theorem Cb.byte1 {F : Cfg} {B : Nat} {va : Value} {b : Nat} {w0 w : World} (h : Cb F B va b w0 w []) (c : UInt8) (n : Int) (hc : (c.toNat : Int) = n) :
    Calls Tryd.prog 55 #[.pointer (some ⟨b, 0, none⟩), .int .u8 n] w fun e w' => e = .returned .nilIface ∧ Cb F B va b w0 w' [c] := by
  have := h.byte c n hc (by simp)
  simpa using this

set_option maxHeartbeats 2000000 in
theorem period_any (F : Cfg) (B : Nat) (va : Value) (b tb t0 n c : Nat) (m : List UInt8) (prev : Int) (w : World) (h : CbIn F B va b tb t0 n m w) (o : List UInt8) (k : Nat)
    (hA : (bat m 1 = 46 ∧ bat m 2 = 46 ∧ 2 < m.length ∧ o = hellipL ∧ k = 2) ∨ (bat m 1 = 32 ∧ bat m 2 = 46 ∧ bat m 3 = 32 ∧ bat m 4 = 46 ∧ 4 < m.length ∧ o = hellipL ∧ k = 4) ∨ (bat m 0 = 46 ∧ bat m 1 = 46 ∧ bat m 2 ≠ 46 ∧ 2 < m.length ∧ o = [46] ∧ k = 0) ∨ (bat m 0 = 46 ∧ bat m 1 = 32 ∧ bat m 2 ≠ 46 ∧ 3 < m.length ∧ o = [46] ∧ k = 0) ∨ (bat m 0 = 46 ∧ bat m 1 = 32 ∧ bat m 2 = 46 ∧ bat m 3 ≠ 32 ∧ 3 < m.length ∧ o = [46] ∧ k = 0)) :
    Calls Tryd.prog 42 #[.pointer (some ⟨B, 0, none⟩), .pointer (some ⟨b, 0, none⟩), .int .u8 prev, .slice (some ⟨tb, t0, none⟩) n c] w (CbSaid F B va b o k w) := by
  have hln := h.text.len
  have hn6 := h.n6
  rcases hA with ⟨h1, h2, hl, rfl, rfl⟩ | ⟨h1, h2, h3, h4, hl, rfl, rfl⟩ | ⟨h0, h1, h2, hl, rfl, rfl⟩ | ⟨h0, h1, h2, hl, rfl, rfl⟩ | ⟨h0, h1, h2, h3, hl, rfl, rfl⟩
  · have HS := Lib.hid (h.cb.str0 ⟨#[38, 104, 101, 108, 108, 105, 112, 59]⟩ hellipL rfl (by decide) (by decide))
    have c1 := h.cell 1 (by omega)
    rw [h1] at c1
    have c2 := h.cell 2 (by omega)
    rw [h2] at c2
    have hn : 3 ≤ n := by omega
    clear h h1 h2
    go_enter Tryd.func42, Tryd.ntmps42
    go_wp2_with (first | (go_at_call 54; refine HS.out.mono ?_; rintro e w1 ⟨rfl, hc⟩))
    all_goals go_ret
    all_goals exact ⟨rfl, hc⟩
  · have HS := Lib.hid (h.cb.str0 ⟨#[38, 104, 101, 108, 108, 105, 112, 59]⟩ hellipL rfl (by decide) (by decide))
    have c1 := h.cell 1 (by omega)
    rw [h1] at c1
    have c2 := h.cell 2 (by omega)
    rw [h2] at c2
    have c3 := h.cell 3 (by omega)
    rw [h3] at c3
    have c4 := h.cell 4 (by omega)
    rw [h4] at c4
    have hn : 5 ≤ n := by omega
    clear h h1 h2 h3 h4
    go_enter Tryd.func42, Tryd.ntmps42
    go_wp2_with (first | (go_at_call 54; refine HS.out.mono ?_; rintro e w1 ⟨rfl, hc⟩))
    all_goals go_ret
    all_goals exact ⟨rfl, hc⟩
  · have HB := Lib.hid (h.cb.byte0 46 46 rfl)
    have c0 := h.cell0
    rw [h0] at c0
    have c1 := h.cell 1 (by omega)
    rw [h1] at c1
    have c2 := h.cell 2 (by omega)
    have q2 := beqF h2
    have hn : 3 ≤ n := by omega
    clear h h0 h1 h2
    go_enter Tryd.func42, Tryd.ntmps42
    go_wp2_with (first | (go_at_call 55; refine HB.out.mono ?_; rintro e w1 ⟨rfl, hc⟩))
    all_goals go_ret
    all_goals exact ⟨rfl, hc⟩
  · have HB := Lib.hid (h.cb.byte0 46 46 rfl)
    have c0 := h.cell0
    rw [h0] at c0
    have c1 := h.cell 1 (by omega)
    rw [h1] at c1
    have c2 := h.cell 2 (by omega)
    have q2 := beqF h2
    have hn : 4 ≤ n := by omega
    clear h h0 h1 h2
    go_enter Tryd.func42, Tryd.ntmps42
    go_wp2_with (first | (go_at_call 55; refine HB.out.mono ?_; rintro e w1 ⟨rfl, hc⟩))
    all_goals go_ret
    all_goals exact ⟨rfl, hc⟩
  · have HB := Lib.hid (h.cb.byte0 46 46 rfl)
    have c0 := h.cell0
    rw [h0] at c0
    have c1 := h.cell 1 (by omega)
    rw [h1] at c1
    have c2 := h.cell 2 (by omega)
    rw [h2] at c2
    have c3 := h.cell 3 (by omega)
    have q3 := beqF h3
    have hn : 4 ≤ n := by omega
    clear h h0 h1 h2 h3
    go_enter Tryd.func42, Tryd.ntmps42
    go_wp2_with (first | (go_at_call 55; refine HB.out.mono ?_; rintro e w1 ⟨rfl, hc⟩))
    all_goals go_ret
    all_goals exact ⟨rfl, hc⟩

set_option maxHeartbeats 2000000 in
theorem parens_any (F : Cfg) (B : Nat) (va : Value) (b tb t0 n c : Nat) (m : List UInt8) (prev : Int) (w : World) (h : CbIn F B va b tb t0 n m w) (o : List UInt8) (k : Nat)
    (hA : (bat m 1 = 99 ∧ bat m 2 = 41 ∧ 2 < m.length ∧ o = copyL ∧ k = 2) ∨ (bat m 1 = 67 ∧ bat m 2 = 41 ∧ 2 < m.length ∧ o = copyL ∧ k = 2) ∨ (bat m 1 = 114 ∧ bat m 2 = 41 ∧ 2 < m.length ∧ o = regL ∧ k = 2) ∨ (bat m 1 = 82 ∧ bat m 2 = 41 ∧ 2 < m.length ∧ o = regL ∧ k = 2) ∨ (bat m 1 = 116 ∧ bat m 2 = 109 ∧ bat m 3 = 41 ∧ 3 < m.length ∧ o = tradeL ∧ k = 3) ∨ (bat m 1 = 116 ∧ bat m 2 = 77 ∧ bat m 3 = 41 ∧ 3 < m.length ∧ o = tradeL ∧ k = 3) ∨ (bat m 1 = 84 ∧ bat m 2 = 109 ∧ bat m 3 = 41 ∧ 3 < m.length ∧ o = tradeL ∧ k = 3) ∨ (bat m 1 = 84 ∧ bat m 2 = 77 ∧ bat m 3 = 41 ∧ 3 < m.length ∧ o = tradeL ∧ k = 3)) :
    Calls Tryd.prog 39 #[.pointer (some ⟨B, 0, none⟩), .pointer (some ⟨b, 0, none⟩), .int .u8 prev, .slice (some ⟨tb, t0, none⟩) n c] w (CbSaid F B va b o k w) := by
  have hln := h.text.len
  have hn6 := h.n6
  have e65 : lowerN 65 = 97 := by decide
  have e67 : lowerN 67 = 99 := by decide
  have e82 : lowerN 82 = 114 := by decide
  have e84 : lowerN 84 = 116 := by decide
  have e77 : lowerN 77 = 109 := by decide
  have e99 : lowerN 99 = 99 := by decide
  have e114 : lowerN 114 = 114 := by decide
  have e116 : lowerN 116 = 116 := by decide
  have e109 : lowerN 109 = 109 := by decide
  have e41 : lowerN 41 = 41 := by decide
  rcases hA with ⟨h1, h2, hl, rfl, rfl⟩ | ⟨h1, h2, hl, rfl, rfl⟩ | ⟨h1, h2, hl, rfl, rfl⟩ | ⟨h1, h2, hl, rfl, rfl⟩ | ⟨h1, h2, h3, hl, rfl, rfl⟩ | ⟨h1, h2, h3, hl, rfl, rfl⟩ | ⟨h1, h2, h3, hl, rfl, rfl⟩ | ⟨h1, h2, h3, hl, rfl, rfl⟩
  · have HS := Lib.hid (h.cb.str0 ⟨#[38, 99, 111, 112, 121, 59]⟩ copyL rfl (by decide) (by decide))
    have c1 := h.cell 1 (by omega)
    rw [h1] at c1
    have c2 := h.cell 2 (by omega)
    rw [h2] at c2
    have hn : 3 ≤ n := by omega
    clear h h1 h2
    go_enter Tryd.func39, Tryd.ntmps39
    go_wp2_with (first | (go_at_call 51; refine (tolowerN_any _ _ (by decide) (by decide)).mono ?_; rintro e w1 ⟨rfl, rfl⟩) | (go_at_call 54; refine HS.out.mono ?_; rintro e w1 ⟨rfl, hc⟩))
    all_goals go_ret
    all_goals exact ⟨rfl, hc⟩
  · have HS := Lib.hid (h.cb.str0 ⟨#[38, 99, 111, 112, 121, 59]⟩ copyL rfl (by decide) (by decide))
    have c1 := h.cell 1 (by omega)
    rw [h1] at c1
    have c2 := h.cell 2 (by omega)
    rw [h2] at c2
    have hn : 3 ≤ n := by omega
    clear h h1 h2
    go_enter Tryd.func39, Tryd.ntmps39
    go_wp2_with (first | (go_at_call 51; refine (tolowerN_any _ _ (by decide) (by decide)).mono ?_; rintro e w1 ⟨rfl, rfl⟩) | (go_at_call 54; refine HS.out.mono ?_; rintro e w1 ⟨rfl, hc⟩))
    all_goals go_ret
    all_goals exact ⟨rfl, hc⟩
  · have HS := Lib.hid (h.cb.str0 ⟨#[38, 114, 101, 103, 59]⟩ regL rfl (by decide) (by decide))
    have c1 := h.cell 1 (by omega)
    rw [h1] at c1
    have c2 := h.cell 2 (by omega)
    rw [h2] at c2
    have hn : 3 ≤ n := by omega
    clear h h1 h2
    go_enter Tryd.func39, Tryd.ntmps39
    go_wp2_with (first | (go_at_call 51; refine (tolowerN_any _ _ (by decide) (by decide)).mono ?_; rintro e w1 ⟨rfl, rfl⟩) | (go_at_call 54; refine HS.out.mono ?_; rintro e w1 ⟨rfl, hc⟩))
    all_goals go_ret
    all_goals exact ⟨rfl, hc⟩
  · have HS := Lib.hid (h.cb.str0 ⟨#[38, 114, 101, 103, 59]⟩ regL rfl (by decide) (by decide))
    have c1 := h.cell 1 (by omega)
    rw [h1] at c1
    have c2 := h.cell 2 (by omega)
    rw [h2] at c2
    have hn : 3 ≤ n := by omega
    clear h h1 h2
    go_enter Tryd.func39, Tryd.ntmps39
    go_wp2_with (first | (go_at_call 51; refine (tolowerN_any _ _ (by decide) (by decide)).mono ?_; rintro e w1 ⟨rfl, rfl⟩) | (go_at_call 54; refine HS.out.mono ?_; rintro e w1 ⟨rfl, hc⟩))
    all_goals go_ret
    all_goals exact ⟨rfl, hc⟩
  · have HS := Lib.hid (h.cb.str0 ⟨#[38, 116, 114, 97, 100, 101, 59]⟩ tradeL rfl (by decide) (by decide))
    have c1 := h.cell 1 (by omega)
    rw [h1] at c1
    have c2 := h.cell 2 (by omega)
    rw [h2] at c2
    have c3 := h.cell 3 (by omega)
    rw [h3] at c3
    have hn : 4 ≤ n := by omega
    clear h h1 h2 h3
    go_enter Tryd.func39, Tryd.ntmps39
    go_wp2_with (first | (go_at_call 51; refine (tolowerN_any _ _ (by decide) (by decide)).mono ?_; rintro e w1 ⟨rfl, rfl⟩) | (go_at_call 54; refine HS.out.mono ?_; rintro e w1 ⟨rfl, hc⟩))
    all_goals go_ret
    all_goals exact ⟨rfl, hc⟩
  · have HS := Lib.hid (h.cb.str0 ⟨#[38, 116, 114, 97, 100, 101, 59]⟩ tradeL rfl (by decide) (by decide))
    have c1 := h.cell 1 (by omega)
    rw [h1] at c1
    have c2 := h.cell 2 (by omega)
    rw [h2] at c2
    have c3 := h.cell 3 (by omega)
    rw [h3] at c3
    have hn : 4 ≤ n := by omega
    clear h h1 h2 h3
    go_enter Tryd.func39, Tryd.ntmps39
    go_wp2_with (first | (go_at_call 51; refine (tolowerN_any _ _ (by decide) (by decide)).mono ?_; rintro e w1 ⟨rfl, rfl⟩) | (go_at_call 54; refine HS.out.mono ?_; rintro e w1 ⟨rfl, hc⟩))
    all_goals go_ret
    all_goals exact ⟨rfl, hc⟩
  · have HS := Lib.hid (h.cb.str0 ⟨#[38, 116, 114, 97, 100, 101, 59]⟩ tradeL rfl (by decide) (by decide))
    have c1 := h.cell 1 (by omega)
    rw [h1] at c1
    have c2 := h.cell 2 (by omega)
    rw [h2] at c2
    have c3 := h.cell 3 (by omega)
    rw [h3] at c3
    have hn : 4 ≤ n := by omega
    clear h h1 h2 h3
    go_enter Tryd.func39, Tryd.ntmps39
    go_wp2_with (first | (go_at_call 51; refine (tolowerN_any _ _ (by decide) (by decide)).mono ?_; rintro e w1 ⟨rfl, rfl⟩) | (go_at_call 54; refine HS.out.mono ?_; rintro e w1 ⟨rfl, hc⟩))
    all_goals go_ret
    all_goals exact ⟨rfl, hc⟩
  · have HS := Lib.hid (h.cb.str0 ⟨#[38, 116, 114, 97, 100, 101, 59]⟩ tradeL rfl (by decide) (by decide))
    have c1 := h.cell 1 (by omega)
    rw [h1] at c1
    have c2 := h.cell 2 (by omega)
    rw [h2] at c2
    have c3 := h.cell 3 (by omega)
    rw [h3] at c3
    have hn : 4 ≤ n := by omega
    clear h h1 h2 h3
    go_enter Tryd.func39, Tryd.ntmps39
    go_wp2_with (first | (go_at_call 51; refine (tolowerN_any _ _ (by decide) (by decide)).mono ?_; rintro e w1 ⟨rfl, rfl⟩) | (go_at_call 54; refine HS.out.mono ?_; rintro e w1 ⟨rfl, hc⟩))
    all_goals go_ret
    all_goals exact ⟨rfl, hc⟩

set_option maxHeartbeats 2000000 in
theorem latex_any (F : Cfg) (B : Nat) (va : Value) (b tb t0 n c : Nat) (m : List UInt8) (prev : Int) (w : World) (h : CbIn F B va b tb t0 n m w) (o : List UInt8) (k : Nat)
    (hA : (bat m 1 = 45 ∧ bat m 2 = 45 ∧ 2 < m.length ∧ o = mdashL ∧ k = 2) ∨ (bat m 1 = 45 ∧ bat m 2 ≠ 45 ∧ 2 < m.length ∧ o = ndashL ∧ k = 1) ∨ (bat m 0 = 45 ∧ bat m 1 ≠ 45 ∧ 2 < m.length ∧ o = [45] ∧ k = 0)) :
    Calls Tryd.prog 41 #[.pointer (some ⟨B, 0, none⟩), .pointer (some ⟨b, 0, none⟩), .int .u8 prev, .slice (some ⟨tb, t0, none⟩) n c] w (CbSaid F B va b o k w) := by
  have hln := h.text.len
  have hn6 := h.n6
  rcases hA with ⟨h1, h2, hl, rfl, rfl⟩ | ⟨h1, h2, hl, rfl, rfl⟩ | ⟨h0, h1, hl, rfl, rfl⟩
  · have HS := Lib.hid (h.cb.str0 ⟨#[38, 109, 100, 97, 115, 104, 59]⟩ mdashL rfl (by decide) (by decide))
    have c1 := h.cell 1 (by omega)
    rw [h1] at c1
    have c2 := h.cell 2 (by omega)
    rw [h2] at c2
    have hn : 3 ≤ n := by omega
    clear h h1 h2
    go_enter Tryd.func41, Tryd.ntmps41
    go_wp2_with (first | (go_at_call 54; refine HS.out.mono ?_; rintro e w1 ⟨rfl, hc⟩))
    all_goals go_ret
    all_goals exact ⟨rfl, hc⟩
  · have HS := Lib.hid (h.cb.str0 ⟨#[38, 110, 100, 97, 115, 104, 59]⟩ ndashL rfl (by decide) (by decide))
    have c1 := h.cell 1 (by omega)
    rw [h1] at c1
    have c2 := h.cell 2 (by omega)
    have q2 := beqF h2
    have hn : 3 ≤ n := by omega
    clear h h1 h2
    go_enter Tryd.func41, Tryd.ntmps41
    go_wp2_with (first | (go_at_call 54; refine HS.out.mono ?_; rintro e w1 ⟨rfl, hc⟩))
    all_goals go_ret
    all_goals exact ⟨rfl, hc⟩
  · have HB := Lib.hid (h.cb.byte0 45 45 rfl)
    have c0 := h.cell0
    rw [h0] at c0
    have c1 := h.cell 1 (by omega)
    have q1 := beqF h1
    have hn : 3 ≤ n := by omega
    clear h h0 h1
    go_enter Tryd.func41, Tryd.ntmps41
    go_wp2_with (first | (go_at_call 55; refine HB.out.mono ?_; rintro e w1 ⟨rfl, hc⟩))
    all_goals go_ret
    all_goals exact ⟨rfl, hc⟩

set_option maxHeartbeats 2000000 in
theorem dash_any (F : Cfg) (B : Nat) (va : Value) (b tb t0 n c : Nat) (m : List UInt8) (prev : Int) (w : World) (h : CbIn F B va b tb t0 n m w) (o : List UInt8) (k : Nat)
    (hA : (bat m 1 = 45 ∧ 1 < m.length ∧ o = mdashL ∧ k = 1) ∨ (bat m 0 = 45 ∧ bat m 1 = 32 ∧ wbI prev = true ∧ 1 < m.length ∧ o = ndashL ∧ k = 0) ∨ (bat m 0 = 45 ∧ lettI (bat m 1) = true ∧ wbI prev = true ∧ 1 < m.length ∧ o = [45] ∧ k = 0) ∨ (bat m 0 = 45 ∧ lettI (bat m 1) = true ∧ wbI prev = false ∧ 1 < m.length ∧ o = [45] ∧ k = 0)) :
    Calls Tryd.prog 40 #[.pointer (some ⟨B, 0, none⟩), .pointer (some ⟨b, 0, none⟩), .int .u8 prev, .slice (some ⟨tb, t0, none⟩) n c] w (CbSaid F B va b o k w) := by
  have hln := h.text.len
  have hn6 := h.n6
  have wb32 : wbI 32 = true := rfl
  have HTl := Lib.hid (show tb < w.heap.size by obtain ⟨b', o', e, hlt, _⟩ := h.text.cells h.n1; cases e; exact hlt)
  rcases hA with ⟨h1, hl, rfl, rfl⟩ | ⟨h0, h1, hp, hl, rfl, rfl⟩ | ⟨h0, h1, hp, hl, rfl, rfl⟩ | ⟨h0, h1, hp, hl, rfl, rfl⟩
  · have HS := Lib.hid (h.cb.str0 ⟨#[38, 109, 100, 97, 115, 104, 59]⟩ mdashL rfl (by decide) (by decide))
    have c1 := h.cell 1 (by omega)
    rw [h1] at c1
    have hn : 2 ≤ n := by omega
    clear h h1
    go_enter Tryd.func40, Tryd.ntmps40
    go_wp2_with (first | (go_at_call 54; refine HS.out.mono ?_; rintro e w1 ⟨rfl, hc⟩))
    all_goals go_ret
    all_goals exact ⟨rfl, hc⟩
  · have c0 := h.cell0
    rw [h0] at c0
    have c1 := h.cell 1 (by omega)
    rw [h1] at c1
    have hn : 2 ≤ n := by omega
    have HT0 := Lib.hid (fun w' (g : Below w.heap.size w w') => (g.cell (p := ⟨tb, t0, none⟩) HTl.out).trans c0)
    have HT1 := Lib.hid (fun w' (g : Below w.heap.size w w') => (g.cell (p := ⟨tb, t0 + 1, none⟩) HTl.out).trans c1)
    have hbl := Below.refl w.heap.size w
    have hcb := h.cb
    clear h h0 h1
    go_enter Tryd.func40, Tryd.ntmps40
    go_wp2_with (first | (go_at_call 53; refine (wb_any _ _).mono ?_; rintro e w2 ⟨rfl, hb⟩; have hcb := Cb.below hcb hb; have hbl := Below.trans hbl (Below.mono hb hbl.size); have k0 := HT0.out _ hbl; have k1 := HT1.out _ hbl) | (go_at_call 54; refine (hcb.str1 ⟨#[38, 110, 100, 97, 115, 104, 59]⟩ ndashL rfl (by decide) (by decide)).mono ?_; rintro e w1 ⟨rfl, hc⟩))
    all_goals go_ret
    all_goals exact ⟨rfl, hc⟩
  · have c0 := h.cell0
    rw [h0] at c0
    have c1 := h.cell 1 (by omega)
    obtain ⟨n0, n1, n2⟩ := lett_facts h1
    have wb1 : wbI (bat m 1) = false := by unfold wbI; rw [n0, n1, n2]; rfl
    have q1 : (bat m 1 == 45) = false := by simp; unfold lettI at h1; simp at h1; omega
    have hn : 2 ≤ n := by omega
    have HT0 := Lib.hid (fun w' (g : Below w.heap.size w w') => (g.cell (p := ⟨tb, t0, none⟩) HTl.out).trans c0)
    have HT1 := Lib.hid (fun w' (g : Below w.heap.size w w') => (g.cell (p := ⟨tb, t0 + 1, none⟩) HTl.out).trans c1)
    have hbl := Below.refl w.heap.size w
    have hcb := h.cb
    clear h h0 h1
    go_enter Tryd.func40, Tryd.ntmps40
    go_wp2_with (first | (go_at_call 53; refine (wb_any _ _).mono ?_; rintro e w2 ⟨rfl, hb⟩; have hcb := Cb.below hcb hb; have hbl := Below.trans hbl (Below.mono hb hbl.size); have k0 := HT0.out _ hbl; have k1 := HT1.out _ hbl) | (go_at_call 55; refine (hcb.byte1 45 45 rfl).mono ?_; rintro e w1 ⟨rfl, hc⟩))
    all_goals go_ret
    all_goals exact ⟨rfl, hc⟩
  · have c0 := h.cell0
    rw [h0] at c0
    have c1 := h.cell 1 (by omega)
    obtain ⟨n0, n1, n2⟩ := lett_facts h1
    have wb1 : wbI (bat m 1) = false := by unfold wbI; rw [n0, n1, n2]; rfl
    have q1 : (bat m 1 == 45) = false := by simp; unfold lettI at h1; simp at h1; omega
    have hn : 2 ≤ n := by omega
    have HT0 := Lib.hid (fun w' (g : Below w.heap.size w w') => (g.cell (p := ⟨tb, t0, none⟩) HTl.out).trans c0)
    have HT1 := Lib.hid (fun w' (g : Below w.heap.size w w') => (g.cell (p := ⟨tb, t0 + 1, none⟩) HTl.out).trans c1)
    have hbl := Below.refl w.heap.size w
    have hcb := h.cb
    clear h h0 h1
    go_enter Tryd.func40, Tryd.ntmps40
    go_wp2_with (first | (go_at_call 53; refine (wb_any _ _).mono ?_; rintro e w2 ⟨rfl, hb⟩; have hcb := Cb.below hcb hb; have hbl := Below.trans hbl (Below.mono hb hbl.size); have k0 := HT0.out _ hbl; have k1 := HT1.out _ hbl) | (go_at_call 55; refine (hcb.byte1 45 45 rfl).mono ?_; rintro e w1 ⟨rfl, hc⟩))
    all_goals go_ret
    all_goals exact ⟨rfl, hc⟩

end Go.Proofs.YtnkjnlmghnomiaaDoor
