/- Lines: the five laws walked: each returns true. Condition: the text is as it is read. -/
import Derived.Test.YthddhejbkdenkaaGreatDoorLineH
namespace Go.Proofs.YthddhejbkdenkaaGreatDoor
open Go.ChangeShapes Go.WideShapes Go.ChangeAt Go.RowKit

set_option maxHeartbeats 4000000 in
set_option maxRecDepth 100000 in
theorem lawFnLineBullet (p : Option Addr) (n c : Nat) (l : List UInt8) (w : World) (h : Bs w p n l) (hc : n ≤ c) (hcm : c ≤ maxLen) :
    Calls Tryz.prog 3 #[.slice p n c] w fun e w' => e = .returned (.bool true) ∧ Below w.heap.size w w' := by
  have hn := h.len
  have H := Lib.hid h
  have HLn := Lib.hid (isLine_any 0 p n c l w h)
  have HN := Lib.hid hn
  clear h hn
  by_cases hbig : 2147483647 < n
  · go_enter Tryz.func3, Tryz.ntmps3
    go_wp2_with fail
    go_ret
    exact ⟨rfl, Below.refl _ _⟩
  cases hline : (extB 0 && lineB l) with
  | false =>
    rw [hline] at HLn
    clear hline
    go_enter Tryz.func3, Tryz.ntmps3
    go_wp2_with fail
    refine HLn.out.mono ?_
    rintro e w1 ⟨rfl, rfl⟩
    go_wp2_with fail
    go_ret
    exact ⟨rfl, Below.refl _ _⟩
  | true =>
    rw [hline] at HLn
    rw [Bool.and_eq_true] at hline
    obtain ⟨hx, hy⟩ := hline
    unfold lineB at hy
    simp only [Bool.and_eq_true, decide_eq_true_eq, beq_iff_eq] at hy
    rw [HN.out] at hy
    obtain ⟨⟨h0, h1⟩, h2⟩ := hy
    obtain ⟨L, hF⟩ := nl_of (l := l) (by rw [HN.out]; exact h0) (by rw [HN.out]; exact h2)
    have HF := Lib.hid hF
    have H2 := Lib.hid h2
    have HCl := Lib.hid (clone_bs p n c l w H.out (by omega))
    have g6 := field6
    clear hx hF h2
    go_enter Tryz.func3, Tryz.ntmps3
    go_wp2_with fail
    refine HLn.out.mono ?_
    rintro e w1 ⟨rfl, rfl⟩
    go_wp2_with fail
    refine HCl.out.mono ?_
    rintro e w1 ⟨p1, c1, rfl, hc1, hcm1, hBs1, hB1⟩
    have HB1 := Lib.hid hB1
    have HI := Lib.hid (lineOf_any 0 p1 n c1 L l w1 hBs1 HF.out H2.out (by omega) (by decide) (by decide))
    have hs1 := hB1.size
    clear HCl HLn hBs1 hB1
    go_wp2_with fail
    refine HI.out.mono ?_
    rintro e w2 ⟨r, u, k, o, rfl, hB2⟩
    have HB2 := Lib.hid (HB1.out.trans (hB2.mono hs1))
    have HS := Lib.hid (sBul_any p n c l w2 (H.out.below HB2.out (Nat.le_refl _)) (by omega))
    clear HI hB2
    go_wp2_with fail
    refine HS.out.mono ?_
    rintro e w3 ⟨rfl, rfl⟩
    have HA := Lib.hid (awake_any w2)
    clear HS
    go_wp2_with fail
    refine HA.out.mono ?_
    rintro e w4 ⟨rfl, hB4⟩
    have HB4 := Lib.hid hB4
    clear hB4 HA
    go_wp2_with fail
    go_ret
    exact ⟨rfl, HB2.out.trans (HB4.out.mono HB2.out.size)⟩

set_option maxHeartbeats 4000000 in
set_option maxRecDepth 100000 in
theorem lawFnLineEmpty (p : Option Addr) (n c : Nat) (l : List UInt8) (w : World) (h : Bs w p n l) (hc : n ≤ c) (hcm : c ≤ maxLen) :
    Calls Tryz.prog 4 #[.slice p n c] w fun e w' => e = .returned (.bool true) ∧ Below w.heap.size w w' := by
  have hn := h.len
  have H := Lib.hid h
  have HLn := Lib.hid (isLine_any 0 p n c l w h)
  have HN := Lib.hid hn
  clear h hn
  by_cases hbig : 2147483647 < n
  · go_enter Tryz.func4, Tryz.ntmps4
    go_wp2_with fail
    go_ret
    exact ⟨rfl, Below.refl _ _⟩
  cases hline : (extB 0 && lineB l) with
  | false =>
    rw [hline] at HLn
    clear hline
    go_enter Tryz.func4, Tryz.ntmps4
    go_wp2_with fail
    refine HLn.out.mono ?_
    rintro e w1 ⟨rfl, rfl⟩
    go_wp2_with fail
    go_ret
    exact ⟨rfl, Below.refl _ _⟩
  | true =>
    rw [hline] at HLn
    rw [Bool.and_eq_true] at hline
    obtain ⟨hx, hy⟩ := hline
    unfold lineB at hy
    simp only [Bool.and_eq_true, decide_eq_true_eq, beq_iff_eq] at hy
    rw [HN.out] at hy
    obtain ⟨⟨h0, h1⟩, h2⟩ := hy
    obtain ⟨L, hF⟩ := nl_of (l := l) (by rw [HN.out]; exact h0) (by rw [HN.out]; exact h2)
    have HF := Lib.hid hF
    have H2 := Lib.hid h2
    have HCl := Lib.hid (clone_bs p n c l w H.out (by omega))
    have g0 := field0
    clear hx hF h2
    go_enter Tryz.func4, Tryz.ntmps4
    go_wp2_with fail
    refine HLn.out.mono ?_
    rintro e w1 ⟨rfl, rfl⟩
    go_wp2_with fail
    refine HCl.out.mono ?_
    rintro e w1 ⟨p1, c1, rfl, hc1, hcm1, hBs1, hB1⟩
    have HB1 := Lib.hid hB1
    have HI := Lib.hid (lineOf_any 0 p1 n c1 L l w1 hBs1 HF.out H2.out (by omega) (by decide) (by decide))
    have hs1 := hB1.size
    clear HCl HLn hBs1 hB1
    go_wp2_with fail
    refine HI.out.mono ?_
    rintro e w2 ⟨r, u, k, o, rfl, hB2⟩
    have HB2 := Lib.hid (HB1.out.trans (hB2.mono hs1))
    have HS := Lib.hid (sEmpty_any p n c l w2 (H.out.below HB2.out (Nat.le_refl _)) h0 hc hcm (by omega))
    clear HI hB2
    go_wp2_with fail
    refine HS.out.mono ?_
    rintro e w3 ⟨rfl, rfl⟩
    have HA := Lib.hid (awake_any w2)
    clear HS
    go_wp2_with fail
    refine HA.out.mono ?_
    rintro e w4 ⟨rfl, hB4⟩
    have HB4 := Lib.hid hB4
    clear hB4 HA
    go_wp2_with fail
    go_ret
    exact ⟨rfl, HB2.out.trans (HB4.out.mono HB2.out.size)⟩

set_option maxHeartbeats 4000000 in
set_option maxRecDepth 100000 in
theorem lawFnLineQuote (p : Option Addr) (n c : Nat) (l : List UInt8) (w : World) (h : Bs w p n l) (hc : n ≤ c) (hcm : c ≤ maxLen) :
    Calls Tryz.prog 6 #[.slice p n c] w fun e w' => e = .returned (.bool true) ∧ Below w.heap.size w w' := by
  have hn := h.len
  have H := Lib.hid h
  have HLn := Lib.hid (isLine_any 0 p n c l w h)
  have HN := Lib.hid hn
  clear h hn
  by_cases hbig : 2147483647 < n
  · go_enter Tryz.func6, Tryz.ntmps6
    go_wp2_with fail
    go_ret
    exact ⟨rfl, Below.refl _ _⟩
  cases hline : (extB 0 && lineB l) with
  | false =>
    rw [hline] at HLn
    clear hline
    go_enter Tryz.func6, Tryz.ntmps6
    go_wp2_with fail
    refine HLn.out.mono ?_
    rintro e w1 ⟨rfl, rfl⟩
    go_wp2_with fail
    go_ret
    exact ⟨rfl, Below.refl _ _⟩
  | true =>
    rw [hline] at HLn
    rw [Bool.and_eq_true] at hline
    obtain ⟨hx, hy⟩ := hline
    unfold lineB at hy
    simp only [Bool.and_eq_true, decide_eq_true_eq, beq_iff_eq] at hy
    rw [HN.out] at hy
    obtain ⟨⟨h0, h1⟩, h2⟩ := hy
    obtain ⟨L, hF⟩ := nl_of (l := l) (by rw [HN.out]; exact h0) (by rw [HN.out]; exact h2)
    have HF := Lib.hid hF
    have H2 := Lib.hid h2
    have HCl := Lib.hid (clone_bs p n c l w H.out (by omega))
    have g4 := field4
    clear hx hF h2
    go_enter Tryz.func6, Tryz.ntmps6
    go_wp2_with fail
    refine HLn.out.mono ?_
    rintro e w1 ⟨rfl, rfl⟩
    go_wp2_with fail
    refine HCl.out.mono ?_
    rintro e w1 ⟨p1, c1, rfl, hc1, hcm1, hBs1, hB1⟩
    have HB1 := Lib.hid hB1
    have HI := Lib.hid (lineOf_any 0 p1 n c1 L l w1 hBs1 HF.out H2.out (by omega) (by decide) (by decide))
    have hs1 := hB1.size
    clear HCl HLn hBs1 hB1
    go_wp2_with fail
    refine HI.out.mono ?_
    rintro e w2 ⟨r, u, k, o, rfl, hB2⟩
    have HB2 := Lib.hid (HB1.out.trans (hB2.mono hs1))
    have HS := Lib.hid (sQuo_any p n c l w2 (H.out.below HB2.out (Nat.le_refl _)) (by omega))
    clear HI hB2
    go_wp2_with fail
    refine HS.out.mono ?_
    rintro e w3 ⟨rfl, rfl⟩
    have HA := Lib.hid (awake_any w2)
    clear HS
    go_wp2_with fail
    refine HA.out.mono ?_
    rintro e w4 ⟨rfl, hB4⟩
    have HB4 := Lib.hid hB4
    clear hB4 HA
    go_wp2_with fail
    go_ret
    exact ⟨rfl, HB2.out.trans (HB4.out.mono HB2.out.size)⟩

set_option maxHeartbeats 4000000 in
set_option maxRecDepth 100000 in
theorem lawFnLineTerm (p : Option Addr) (n c : Nat) (l : List UInt8) (w : World) (h : Bs w p n l) (hc : n ≤ c) (hcm : c ≤ maxLen) :
    Calls Tryz.prog 7 #[.slice p n c] w fun e w' => e = .returned (.bool true) ∧ Below w.heap.size w w' := by
  have hn := h.len
  have H := Lib.hid h
  have HLn := Lib.hid (isLine_any 0 p n c l w h)
  have HN := Lib.hid hn
  clear h hn
  by_cases hbig : 2147483647 < n
  · go_enter Tryz.func7, Tryz.ntmps7
    go_wp2_with fail
    go_ret
    exact ⟨rfl, Below.refl _ _⟩
  cases hline : (extB 0 && lineB l) with
  | false =>
    rw [hline] at HLn
    clear hline
    go_enter Tryz.func7, Tryz.ntmps7
    go_wp2_with fail
    refine HLn.out.mono ?_
    rintro e w1 ⟨rfl, rfl⟩
    go_wp2_with fail
    go_ret
    exact ⟨rfl, Below.refl _ _⟩
  | true =>
    rw [hline] at HLn
    rw [Bool.and_eq_true] at hline
    obtain ⟨hx, hy⟩ := hline
    unfold lineB at hy
    simp only [Bool.and_eq_true, decide_eq_true_eq, beq_iff_eq] at hy
    rw [HN.out] at hy
    obtain ⟨⟨h0, h1⟩, h2⟩ := hy
    obtain ⟨L, hF⟩ := nl_of (l := l) (by rw [HN.out]; exact h0) (by rw [HN.out]; exact h2)
    have HF := Lib.hid hF
    have H2 := Lib.hid h2
    have HCl := Lib.hid (clone_bs p n c l w H.out (by omega))
    have g8 := field8
    clear hx hF h2
    go_enter Tryz.func7, Tryz.ntmps7
    go_wp2_with fail
    refine HLn.out.mono ?_
    rintro e w1 ⟨rfl, rfl⟩
    go_wp2_with fail
    refine HCl.out.mono ?_
    rintro e w1 ⟨p1, c1, rfl, hc1, hcm1, hBs1, hB1⟩
    have HB1 := Lib.hid hB1
    have HI := Lib.hid (lineOf_any 0 p1 n c1 L l w1 hBs1 HF.out H2.out (by omega) (by decide) (by decide))
    have hs1 := hB1.size
    clear HCl HLn hBs1 hB1
    go_wp2_with fail
    refine HI.out.mono ?_
    rintro e w2 ⟨r, u, k, o, rfl, hB2⟩
    have HB2 := Lib.hid (HB1.out.trans (hB2.mono hs1))
    have HS := Lib.hid (sTerm_any p n c l w2 (H.out.below HB2.out (Nat.le_refl _)) (by omega))
    clear HI hB2
    go_wp2_with fail
    refine HS.out.mono ?_
    rintro e w3 ⟨rfl, rfl⟩
    have HA := Lib.hid (awake_any w2)
    clear HS
    go_wp2_with fail
    refine HA.out.mono ?_
    rintro e w4 ⟨rfl, hB4⟩
    have HB4 := Lib.hid hB4
    clear hB4 HA
    go_wp2_with fail
    go_ret
    exact ⟨rfl, HB2.out.trans (HB4.out.mono HB2.out.size)⟩

set_option maxHeartbeats 4000000 in
set_option maxRecDepth 100000 in
theorem lawFnLineHeading (ext : Int) (p : Option Addr) (n c : Nat) (l : List UInt8) (w : World) (h : Bs w p n l) (hc : n ≤ c) (hcm : c ≤ maxLen) :
    Calls Tryz.prog 5 #[.int .i64 ext, .slice p n c] w fun e w' => e = .returned (.bool true) ∧ Below w.heap.size w w' := by
  have hn := h.len
  have H := Lib.hid h
  have HLn := Lib.hid (isLine_any ext p n c l w h)
  have HN := Lib.hid hn
  clear h hn
  by_cases hbig : 2147483647 < n
  · go_enter Tryz.func5, Tryz.ntmps5
    go_wp2_with fail
    go_ret
    exact ⟨rfl, Below.refl _ _⟩
  cases hline : (extB ext && lineB l) with
  | false =>
    rw [hline] at HLn
    clear hline
    go_enter Tryz.func5, Tryz.ntmps5
    go_wp2_with fail
    refine HLn.out.mono ?_
    rintro e w1 ⟨rfl, rfl⟩
    go_wp2_with fail
    go_ret
    exact ⟨rfl, Below.refl _ _⟩
  | true =>
    rw [hline] at HLn
    rw [Bool.and_eq_true] at hline
    obtain ⟨hx, hy⟩ := hline
    have e0 : (0 : Int) ≤ ext := by unfold extB at hx; simp only [Bool.and_eq_true, decide_eq_true_eq] at hx; exact hx.1
    have e1 : ext ≤ 1000000 := by unfold extB at hx; simp only [Bool.and_eq_true, decide_eq_true_eq] at hx; omega
    unfold lineB at hy
    simp only [Bool.and_eq_true, decide_eq_true_eq, beq_iff_eq] at hy
    rw [HN.out] at hy
    obtain ⟨⟨h0, h1⟩, h2⟩ := hy
    obtain ⟨L, hF⟩ := nl_of (l := l) (by rw [HN.out]; exact h0) (by rw [HN.out]; exact h2)
    have HF := Lib.hid hF
    have H2 := Lib.hid h2
    have HCl := Lib.hid (clone_bs p n c l w H.out (by omega))
    have g2 := field2
    clear hx hF h2
    go_enter Tryz.func5, Tryz.ntmps5
    go_wp2_with fail
    refine HLn.out.mono ?_
    rintro e w1 ⟨rfl, rfl⟩
    go_wp2_with fail
    refine HCl.out.mono ?_
    rintro e w1 ⟨p1, c1, rfl, hc1, hcm1, hBs1, hB1⟩
    have HB1 := Lib.hid hB1
    have HI := Lib.hid (lineOf_any ext p1 n c1 L l w1 hBs1 HF.out H2.out (by omega) e0 e1)
    have hs1 := hB1.size
    clear HCl HLn hBs1 hB1
    go_wp2_with fail
    refine HI.out.mono ?_
    rintro e w2 ⟨r, u, k, o, rfl, hB2⟩
    have HB2 := Lib.hid (HB1.out.trans (hB2.mono hs1))
    have HS := Lib.hid (sHead_any ext p n c l w2 (H.out.below HB2.out (Nat.le_refl _)) h0 (by omega) e0 e1)
    clear HI hB2
    go_wp2_with fail
    refine HS.out.mono ?_
    rintro e w3 ⟨rfl, rfl⟩
    have HA := Lib.hid (awake_any w2)
    clear HS
    go_wp2_with fail
    refine HA.out.mono ?_
    rintro e w4 ⟨rfl, hB4⟩
    have HB4 := Lib.hid hB4
    clear hB4 HA
    go_wp2_with fail
    go_ret
    exact ⟨rfl, HB2.out.trans (HB4.out.mono HB2.out.size)⟩

end Go.Proofs.YthddhejbkdenkaaGreatDoor
