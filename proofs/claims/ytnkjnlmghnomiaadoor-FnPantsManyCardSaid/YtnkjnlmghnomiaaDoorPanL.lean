/- Smart punctuation: the callbacks of tags and ampersands walked. Condition: lengths are bounded. -/
import Derived.Test.YtnkjnlmghnomiaaDoorPanJ
import Derived.Test.YtnkjnlmghnomiaaDoorBytes
namespace Go.Proofs.YtnkjnlmghnomiaaDoor
open Go.ChangeShapes Go.WideShapes Go.ChangeAt Go.RowKit

set_option maxHeartbeats 1000000 in
theorem angle_any (F : Cfg) (B : Nat) (va : Value) (b tb t0 n c g : Nat) (m : List UInt8) (prev : Int) (w : World) (h : CbIn F B va b tb t0 n m w) (hg : bat m g = 62) (hl : g < m.length) (hno : ∀ j, j < g → bat m j ≠ 62) (hnc : n ≤ c) (hcm : c ≤ maxLen) :
    Calls Tryd.prog 45 #[.pointer (some ⟨B, 0, none⟩), .pointer (some ⟨b, 0, none⟩), .int .u8 prev, .slice (some ⟨tb, t0, none⟩) n c] w (CbSaid F B va b (m.take (g + 1)) g w) := by
  have hln := h.text.len
  have hn6 := h.n6
  have HC := Lib.hid (fun i (hi : i < m.length) => h.cell i hi)
  have HNo := Lib.hid hno
  have HW := Lib.hid (h.cb.write (c := c) (h.text.take (g + 1) (by omega)) h.tb' (by omega) (by simp; omega))
  have HG := Lib.hid hg
  have HLn := Lib.hid hln
  unfold maxLen at hcm
  clear h hno hg hln
  have hgn : g < n := by have := HLn.out; omega
  go_enter Tryd.func45, Tryd.ntmps45
  go_wp2_with fail
  go_loop [9] (fun t => ∃ k : Nat, k ≤ g ∧ t = .int .i64 k) (fun t => g - (intOf t).toNat)
  case atStart => exact ⟨0, Nat.zero_le _, rfl⟩
  case round =>
    obtain ⟨k, hk, rfl⟩ := hrel
    have ck := HC.out k (by omega)
    by_cases hlt : k < g
    · have hq : (bat m k != 62) = true := by simpa using HNo.out k hlt
      go_wp2_with fail
      go_round
      case rel => exact ⟨k + 1, by omega, by go_num⟩
      case measure => simp [intOf]; omega
    · obtain rfl : k = g := by omega
      have hq : (bat m k != 62) = false := by simpa using HG.out
      go_wp2_with fail
      refine HW.out.mono ?_
      rintro e w1 ⟨rfl, hc⟩
      go_wp2_with fail
      go_ret
      exact ⟨rfl, by simpa using hc⟩

theorem begins_yes {m k : List UInt8} (h : m.take k.length = k) (hl : k.length ≤ m.length) : begins m k = true := by
  unfold begins
  rw [h]
  simpa using hl
theorem begins_no {m k : List UInt8} {j : Nat} (hj : j < k.length) (hm : j < m.length) (h : bat m j ≠ bat k j) : begins m k = false := by
  rw [Bool.eq_false_iff]
  intro hb
  unfold begins at hb
  rw [Bool.and_eq_true] at hb
  have he : m.take k.length = k := by simpa using hb.1
  apply h
  rw [← he]
  have hj2 : j < (List.take k.length m).length := by rw [he]; exact hj
  unfold bat
  simp only [List.getD, List.getElem?_take]
  split
  · rfl
  · rename_i hx
    exact absurd hj hx

/-- does the text begin with a constant that is made for it -/
def ampL : List UInt8 := [38, 35, 48, 59]
set_option maxHeartbeats 2000000 in
set_option maxRecDepth 100000 in
theorem ampQuot_any (F : Cfg) (B : Nat) (va : Value) (b tb t0 n c : Nat) (m : List UInt8) (prev : Int) (w : World) (h : CbIn F B va b tb t0 n m w) (op nb : Bool) (q : UInt8) (h0 : m.take 6 = quotL) (hl : 6 < m.length) (hq : hqB op prev (bat m 6) = true) (hnc : n ≤ c) (hcm : c ≤ maxLen) :
    Calls Tryd.prog 49 #[.pointer (some ⟨B, 0, none⟩), .pointer (some ⟨b, 0, none⟩), .int .u8 prev, .slice (some ⟨tb, t0, none⟩) n c, .int .u8 (q.toNat : Int), .bool nb] w (CbSaid F B va b (quoL op q nb) 5 w) := by
  have hln := h.text.len
  have hn6 := h.n6
  have hcv := conv_first w
  have HNew := Lib.hid (fun (C : Array Value) (h : C.toList = vals quotL) => Bs.new w quotL C 5 (C.size, C.size + 1) 6 rfl h)
  have HBl := Lib.hid (fun (C : Array Value) => ((Below.refl w.heap.size w).alloc (Nat.le_refl _) (.cells C 5 (C.size, C.size + 1))))
  have HT := Lib.hid h.text
  have HB := Lib.hid (begins_yes (m := m) (k := quotL) h0 (by show 6 ≤ _; omega))
  have HQ := Lib.hid hq
  have HC := Lib.hid h.cb
  have c6 := h.cell 6 hl
  have HTl := Lib.hid (show tb < w.heap.size by obtain ⟨b', o', e, hlt, _⟩ := h.text.cells h.n1; cases e; exact hlt)
  have hn : 7 ≤ n := by omega
  clear h h0 hq
  go_enter Tryd.func49, Tryd.ntmps49
  go_upto_region 1 with fail
  go_cut [17] (fun s wx => s = .bool true ∧ Below w.heap.size w wx)
  case first =>
    go_wp2_with fail
    refine (hasPrefix_any (some ⟨tb, t0, none⟩) (some ⟨w.heap.size, 0, none⟩) n c 6 6 m quotL _ (HT.out.below (HBl.out _) (Nat.le_refl _)) (HNew.out _ rfl) hnc hcm (by decide)).mono ?_
    rintro e w2 ⟨rfl, rfl⟩
    have hB := HB.out
    go_wp2_with fail
    go_meet
    exact ⟨rfl, HBl.out _⟩
  obtain ⟨rfl, hbel⟩ := hcut
  have HBe := Lib.hid hbel
  have k6 := (hbel.cell (p := ⟨tb, t0 + 6, none⟩) HTl.out).trans c6
  have HQu := Lib.hid (quote_any F B va b w wc [] (HC.out.below hbel) op prev (bat m 6) HQ.out q 1 (by decide) nb (by simp))
  clear hbel hcv c6
  go_wp2_with fail
  refine HQu.out.mono ?_
  rintro e w2 ⟨rfl, hc⟩
  go_wp2_with fail
  go_ret
  exact ⟨rfl, by simpa using hc⟩

set_option maxHeartbeats 2000000 in
set_option maxRecDepth 100000 in
theorem ampOne_any (F : Cfg) (B : Nat) (va : Value) (b tb t0 n c : Nat) (m : List UInt8) (prev : Int) (w : World) (h : CbIn F B va b tb t0 n m w) (nb : Bool) (q : UInt8) (hl : 1 < m.length) (h1 : bat m 1 ≠ 113) (h2 : bat m 1 ≠ 35) (hnc : n ≤ c) (hcm : c ≤ maxLen) :
    Calls Tryd.prog 49 #[.pointer (some ⟨B, 0, none⟩), .pointer (some ⟨b, 0, none⟩), .int .u8 prev, .slice (some ⟨tb, t0, none⟩) n c, .int .u8 (q.toNat : Int), .bool nb] w (CbSaid F B va b [38] 0 w) := by
  have hln := h.text.len
  have hn6 := h.n6
  have hcv := fun (W : World) => conv_first W
  have HNew := Lib.hid (fun (W : World) (l : List UInt8) (C : Array Value) (h : C.toList = vals l) => Bs.new W l C 5 (C.size, C.size + 1) l.length rfl h)
  have HBl := Lib.hid (fun (W : World) (C : Array Value) => ((Below.refl W.heap.size W).alloc (Nat.le_refl _) (.cells C 5 (C.size, C.size + 1))))
  have HT := Lib.hid h.text
  have HB := Lib.hid (begins_no (m := m) (k := quotL) (j := 1) (by decide) hl h1)
  have HB2 := Lib.hid (begins_no (m := m) (k := ampL) (j := 1) (by decide) hl h2)
  have HC := Lib.hid h.cb
  clear h h1 h2
  go_enter Tryd.func49, Tryd.ntmps49
  go_upto_region 1 with fail
  go_cut [17] (fun s wx => s = .bool false ∧ Below w.heap.size w wx)
  case first =>
    go_wp2_with fail
    refine (hasPrefix_any (some ⟨tb, t0, none⟩) (some ⟨w.heap.size, 0, none⟩) n c 6 6 m quotL _ (HT.out.below (HBl.out w _) (Nat.le_refl _)) (HNew.out w quotL _ rfl) hnc hcm (by decide)).mono ?_
    rintro e w2 ⟨rfl, rfl⟩
    have hB := HB.out
    go_wp2_with fail
    go_meet
    exact ⟨rfl, HBl.out w _⟩
  obtain ⟨rfl, hbel⟩ := hcut
  have HBe := Lib.hid hbel
  clear hbel
  go_upto_region 7 with fail
  go_cut [36] (fun s wx => s = .bool false ∧ Below w.heap.size w wx)
  case first =>
    go_wp2_with fail
    refine (hasPrefix_any (some ⟨tb, t0, none⟩) (some ⟨wc.heap.size, 0, none⟩) n c 4 4 m ampL _ ((HT.out.below HBe.out (Nat.le_refl _)).below (HBl.out wc _) (Nat.le_refl _)) (HNew.out wc ampL _ rfl) hnc hcm (by decide)).mono ?_
    rintro e w2 ⟨rfl, rfl⟩
    have hB := HB2.out
    go_wp2_with fail
    go_meet
    exact ⟨rfl, HBe.out.trans ((HBl.out wc _).mono HBe.out.size)⟩
  obtain ⟨rfl, hbel⟩ := hcut
  have HWr := Lib.hid ((HC.out.below hbel).byte1 38 38 rfl)
  clear hbel hcv
  go_wp2_with fail
  refine HWr.out.mono ?_
  rintro e w2 ⟨rfl, hc⟩
  go_wp2_with fail
  go_ret
  exact ⟨rfl, hc⟩

/-- the closure for the ampersand: what it captured, handed on -/
theorem ampFn_any (F : Cfg) (B b x y z : Nat) (v4 : Value) (prev : Int) (w : World) (hx : w.cell? ⟨x, 0, none⟩ = some (.pointer (some ⟨B, 0, none⟩))) (hy : w.cell? ⟨y, 0, none⟩ = some (.int .u8 ((quoK F).toNat : Int))) (hz : w.cell? ⟨z, 0, none⟩ = some (.bool F.nbsp)) (k : Nat) (Q : World → Prop)
    (h : Calls Tryd.prog 49 #[.pointer (some ⟨B, 0, none⟩), .pointer (some ⟨b, 0, none⟩), .int .u8 prev, v4, .int .u8 ((quoK F).toNat : Int), .bool F.nbsp] w fun e w' => e = .returned (.int .i64 k) ∧ Q w') :
    Calls Tryd.prog 48 #[.pointer (some ⟨b, 0, none⟩), .int .u8 prev, v4, .pointer (some ⟨x, 0, none⟩), .pointer (some ⟨y, 0, none⟩), .pointer (some ⟨z, 0, none⟩)] w fun e w' => e = .returned (.int .i64 k) ∧ Q w' := by
  have H := Lib.hid h
  clear h
  go_enter Tryd.func48, Tryd.ntmps48
  go_wp2_with fail
  refine H.out.mono ?_
  rintro e w1 ⟨rfl, hq⟩
  have HQ := Lib.hid hq
  clear hq
  go_wp2_with fail
  go_ret
  exact ⟨rfl, HQ.out⟩

end Go.Proofs.YtnkjnlmghnomiaaDoor
