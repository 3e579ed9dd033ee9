/- Fences: the law laws.FnFence walked: it returns true. Condition: the text and the marker are as they are read. -/
import Derived.Test.YtcpkkmpckdcbjaaDoorFenF
namespace Go.Proofs.YtcpkkmpckdcbjaaDoor
open Go.ChangeShapes Go.WideShapes Go.ChangeAt Go.RowKit

theorem ext_any (w : World) : Calls Tryd.prog 8 #[.int .i64 0] w fun e w' => e = .returned (.bool true) ∧ w = w' := by
  go_enter Tryd.func8, Tryd.ntmps8
  go_wp2
  go_ret
  exact ⟨rfl, rfl⟩

def tl : List UInt8 := [126, 126, 126, 10]
theorem tl_fl : FL tl 3 := by
  refine ⟨by decide, by decide, fun i hi => ?_, fun i hi => ?_, fun i hi => ?_, by decide⟩
  · match i, hi with
    | 0, _ => decide
    | 1, _ => decide
    | 2, _ => decide
  · match i, hi with
    | 0, _ => decide
    | 1, _ => decide
    | 2, _ => decide
    | 3, _ => decide
  · match i, hi with
    | 0, _ => decide
    | 1, _ => decide
    | 2, _ => decide
    | 3, _ => decide
theorem tl_fence : fence (tl.take 3) false [] = some ([126, 126, 126], []) := by decide
def tlCells : Array Value := #[.int .u8 126, .int .u8 126, .int .u8 126, .int .u8 10]
def lineB (l : List UInt8) : Bool := decide (0 < l.length) && decide (l.length ≤ 1000) && (bat l (l.length - 1) == 10)
set_option maxHeartbeats 1000000 in
set_option maxRecDepth 100000 in
theorem isLine_any (p : Option Addr) (n c : Nat) (l : List UInt8) (w : World) (h : Bs w p n l) :
    Calls Tryd.prog 4 #[.int .i64 0, .slice p n c] w fun e w' => e = .returned (.bool (lineB l)) ∧ w = w' := by
  have hn := h.len
  have HL := Lib.hid hn
  by_cases h0 : n = 0
  · have HV := Lib.hid (show lineB l = false by unfold lineB; rw [hn, h0]; rfl)
    subst h0
    clear h hn
    go_enter Tryd.func4, Tryd.ntmps4
    go_wp2_with (go_at_call 8; refine (ext_any _).mono ?_; rintro e w1 ⟨rfl, rfl⟩)
    go_ret
    exact ⟨ret_bool HV.out.symm, rfl⟩
  · by_cases h1 : 1000 < n
    · have HV := Lib.hid (show lineB l = false by unfold lineB; rw [hn, decide_eq_false (show ¬ n ≤ 1000 by omega)]; simp)
      clear h hn
      go_enter Tryd.func4, Tryd.ntmps4
      go_wp2_with (go_at_call 8; refine (ext_any _).mono ?_; rintro e w1 ⟨rfl, rfl⟩)
      go_ret
      exact ⟨ret_bool HV.out.symm, rfl⟩
    · obtain ⟨m, rfl⟩ : ∃ m, n = m + 1 := ⟨n - 1, by omega⟩
      obtain ⟨b, o, rfl, _, hc⟩ := h.cells (by omega)
      have cm := hc m (by omega)
      have HV := Lib.hid (show lineB l = (bat l m == 10) by unfold lineB; rw [hn, decide_eq_true (show 0 < m + 1 by omega), decide_eq_true (show m + 1 ≤ 1000 by omega)]; rfl)
      clear hc hn h
      go_enter Tryd.func4, Tryd.ntmps4
      go_wp2_with (go_at_call 8; refine (ext_any _).mono ?_; rintro e w1 ⟨rfl, rfl⟩)
      go_ret
      exact ⟨ret_bool HV.out.symm, rfl⟩

/-- a character of the texts that the law speaks of -/
def goodC (ask : Bool) (z : Int) : Prop := z < 128 ∧ z ≠ 13 ∧ z ≠ 12 ∧ z ≠ 11 ∧ (ask = true → z ≠ 123)
theorem fl_of {l : List UInt8} {ask : Bool} (hb : lineB l = true) (hg : ∀ i, i < l.length → goodC ask (bat l i)) : ∃ L, FL l L := by
  unfold lineB at hb
  simp only [Bool.and_eq_true, decide_eq_true_eq, beq_iff_eq] at hb
  obtain ⟨⟨h0, h1⟩, h2⟩ := hb
  have hex : ∀ d, ∀ i, l.length - 1 - i = d → i < l.length → (∀ j, j < i → bat l j ≠ 10) → ∃ L, L < l.length ∧ bat l L = 10 ∧ ∀ j, j < L → bat l j ≠ 10 := by
    intro d
    induction d with
    | zero =>
      intro i hd hi hj
      exact ⟨i, hi, by rw [show i = l.length - 1 by omega]; exact h2, hj⟩
    | succ d ih =>
      intro i hd hi hj
      by_cases e : bat l i = 10
      · exact ⟨i, hi, e, hj⟩
      · exact ih (i + 1) (by omega) (by omega) (fun j hj2 => by
          by_cases e2 : j = i
          · rw [e2]; exact e
          · exact hj j (by omega))
  obtain ⟨L, k1, k2, k3⟩ := hex _ 0 rfl h0 (fun j hj => absurd hj (Nat.not_lt_zero j))
  exact ⟨L, k1, k2, k3, fun i hi => (hg i hi).1, fun i hi => ⟨(hg i hi).2.2.2.1, (hg i hi).2.2.1, (hg i hi).2.1⟩, h1⟩

set_option maxHeartbeats 16000000 in
set_option maxRecDepth 100000 in
theorem fence_law (p : Option Addr) (n c : Nat) (l : List UInt8) (ask : Bool) (mk : ByteArray) (ml : List UInt8) (w : World) (h : Bs w p n l) (hc : n ≤ c) (hcm : c ≤ maxLen) (hm : Str mk ml) :
    Calls Tryd.prog 3 #[.slice p n c, .bool ask, .string mk] w fun e w' => e = .returned (.bool true) ∧ Below w.heap.size w w' := by
  have hn := h.len
  have hms : mk.size = ml.length := hm.size
  have H := Lib.hid h
  have HM := Lib.hid hm
  have HLn := Lib.hid (isLine_any p n c l w h)
  have HN := Lib.hid hn
  clear h hm hn
  by_cases hbig : 2147483647 < n
  · go_enter Tryd.func3, Tryd.ntmps3
    go_wp2_with fail
    go_ret
    exact ⟨rfl, Below.refl _ _⟩
  by_cases hbig2 : 2147483647 < ml.length
  · go_enter Tryd.func3, Tryd.ntmps3
    go_wp2_with fail
    go_ret
    exact ⟨rfl, Below.refl _ _⟩
  cases hline : lineB l with
  | false =>
    rw [hline] at HLn
    go_enter Tryd.func3, Tryd.ntmps3
    go_wp2_with (go_at_call 4; refine HLn.out.mono ?_; rintro e w1 ⟨rfl, rfl⟩)
    go_ret
    exact ⟨rfl, Below.refl _ _⟩
  | true =>
    rw [hline] at HLn
    have HLine := Lib.hid hline
    clear hline
    by_cases h20 : 20 < ml.length
    · go_enter Tryd.func3, Tryd.ntmps3
      go_wp2_with (go_at_call 4; refine HLn.out.mono ?_; rintro e w1 ⟨rfl, rfl⟩)
      go_ret
      exact ⟨rfl, Below.refl _ _⟩
    go_enter Tryd.func3, Tryd.ntmps3
    go_wp2_with (go_at_call 4; refine HLn.out.mono ?_; rintro e w1 ⟨rfl, rfl⟩)
    go_loop [36] (fun t => ∃ k : Nat, k ≤ n ∧ t = .int .i64 k ∧ ∀ i, i < k → goodC ask (bat l i)) (fun t => n - (intOf t).toNat)
    case atStart => exact ⟨0, Nat.zero_le _, rfl, fun i hi => absurd hi (Nat.not_lt_zero i)⟩
    case round =>
      obtain ⟨k, hk, rfl, hg⟩ := hrel
      have HG := Lib.hid hg
      clear hg
      by_cases hkn : k < n
      · obtain ⟨b, o, rfl, _, hcell⟩ := H.out.cells (by omega)
        have ck := hcell k hkn
        clear hcell
        by_cases g1 : 128 ≤ bat l k
        · go_wp2_with fail
          go_ret
          exact ⟨rfl, Below.refl _ _⟩
        cases g2 : (bat l k == 13) with
        | true =>
          go_wp2_with fail
          go_ret
          exact ⟨rfl, Below.refl _ _⟩
        | false =>
        cases g3 : (bat l k == 12) with
        | true =>
          go_wp2_with fail
          go_ret
          exact ⟨rfl, Below.refl _ _⟩
        | false =>
        cases g4 : (bat l k == 11) with
        | true =>
          go_wp2_with fail
          go_ret
          exact ⟨rfl, Below.refl _ _⟩
        | false =>
        cases ask with
        | false =>
          have HZ := Lib.hid (show goodC false (bat l k) from ⟨by omega, by simpa using g2, by simpa using g3, by simpa using g4, fun e => by cases e⟩)
          go_wp2_with fail
          go_round
          case rel =>
            refine ⟨k + 1, by omega, by go_num, fun i hi => ?_⟩
            by_cases e : i = k
            · rw [e]; exact HZ.out
            · exact HG.out i (by omega)
          case measure => simp [intOf]; omega
        | true =>
        cases g5 : (bat l k == 123) with
        | true =>
          go_wp2_with fail
          go_ret
          exact ⟨rfl, Below.refl _ _⟩
        | false =>
          have HZ := Lib.hid (show goodC true (bat l k) from ⟨by omega, by simpa using g2, by simpa using g3, by simpa using g4, fun _ => by simpa using g5⟩)
          go_wp2_with fail
          go_round
          case rel =>
            refine ⟨k + 1, by omega, by go_num, fun i hi => ?_⟩
            by_cases e : i = k
            · rw [e]; exact HZ.out
            · exact HG.out i (by omega)
          case measure => simp [intOf]; omega
      · have hke : k = n := by omega
        subst hke
        have HGd := Lib.hid (show ∀ i, i < l.length → goodC ask (bat l i) from fun i hi => HG.out i (by rw [HN.out] at hi; exact hi))
        obtain ⟨L, hF⟩ := fl_of HLine.out HGd.out
        have HF := Lib.hid hF
        have HCl := Lib.hid (clone_bs p k c l w H.out (by omega))
        clear hF
        go_wp2_with fail
        refine HCl.out.mono ?_
        rintro e w1 ⟨p1, c1, rfl, hc1, hcm1, hBs1, hB1⟩
        have HB1 := Lib.hid hB1
        have HI := Lib.hid (impl_any p1 k c1 L l ask mk ml w1 hBs1 HF.out HM.out (by omega) (fun ha i hi => (HGd.out i (by rw [HN.out]; exact hi)).2.2.2.2 ha))
        have hs1 := hB1.size
        clear HCl hBs1 hB1
        go_wp2_with fail
        refine HI.out.mono ?_
        rintro e w2 ⟨he, hB2⟩
        have HB2 := Lib.hid (HB1.out.trans (hB2.mono hs1))
        have hs2 := HB2.out.size
        have HSp := Lib.hid (specFence_any p k c L l ask mk ml w2 (H.out.below HB2.out (Nat.le_refl _)) hc hcm HF.out HM.out (by omega))
        clear HI hB2
        obtain ⟨r, hr⟩ : ∃ r, r = fence (l.take L) ask ml := ⟨_, rfl⟩
        rw [← hr] at he HSp
        clear hr
        cases r with
        | none =>
          have he' : e = .returned (.tuple #[.int .i64 0, .string ⟨#[]⟩, .string ⟨#[]⟩]) := he
          clear he
          subst he'
          go_wp2_with fail
          refine HSp.out.mono ?_
          rintro e w3 ⟨he, dr, rfl⟩
          have he' : e = .returned (.tuple #[.int .i64 0, .string ⟨#[]⟩, .string ⟨#[]⟩]) := he
          clear he HSp
          subst he'
          have kc : (convert 22 22 (.slice (some ⟨w2.heap.size, 0, none⟩) 4 4)).run Tryd.prog ((w2.drewN dr).alloc (.cells #[.int .u8 126, .int .u8 126, .int .u8 126, .int .u8 10] 5)) = .ok (.slice (some ⟨w2.heap.size, 0, none⟩) 4 4) ((w2.drewN dr).alloc (.cells #[.int .u8 126, .int .u8 126, .int .u8 126, .int .u8 10] 5 (4, 5))) := conv_first (w2.drewN dr) #[.int .u8 126, .int .u8 126, .int .u8 126, .int .u8 10] 4 4
          have HI2 := Lib.hid (impl_any (some ⟨w2.heap.size, 0, none⟩) 4 4 3 tl false ⟨#[]⟩ [] ((w2.drewN dr).alloc (.cells #[.int .u8 126, .int .u8 126, .int .u8 126, .int .u8 10] 5 (4, 5))) (Bs.newAt (w2.drewN dr) w2.heap.size rfl tl _ _ _ 4 rfl rfl) tl_fl rfl (by decide) (fun h => by cases h))
          rw [tl_fence] at HI2
          go_wp2_with fail
          refine HI2.out.mono ?_
          rintro e w4 ⟨he, hB4⟩
          have he' : e = .returned (.tuple #[.int .i64 4, .string (str [126, 126, 126]), .string (str [])]) := he
          clear he HI2
          subst he'
          have HB4 := Lib.hid hB4
          clear hB4
          go_wp2_with fail
          go_ret
          exact ⟨rfl, HB2.out.trans ((Below.alloc (Go.Proofs.YtcpkkmpckdcbjaaDoor.Below.drewN (Below.refl w.heap.size w2) dr) hs2 _).trans (HB4.out.mono (by simp; omega)))⟩
        | some r =>
          have he' : e = .returned (.tuple #[.int .i64 ((L + 1 : Nat) : Int), .string (str r.1), .string (str r.2)]) := he
          clear he
          subst he'
          go_wp2_with fail
          refine HSp.out.mono ?_
          rintro e w3 ⟨he, dr, rfl⟩
          have he' : e = .returned (.tuple #[.int .i64 ((L + 1 : Nat) : Int), .string (str r.1), .string (str r.2)]) := he
          clear he HSp
          subst he'
          have kc : (convert 22 22 (.slice (some ⟨w2.heap.size, 0, none⟩) 4 4)).run Tryd.prog ((w2.drewN dr).alloc (.cells #[.int .u8 126, .int .u8 126, .int .u8 126, .int .u8 10] 5)) = .ok (.slice (some ⟨w2.heap.size, 0, none⟩) 4 4) ((w2.drewN dr).alloc (.cells #[.int .u8 126, .int .u8 126, .int .u8 126, .int .u8 10] 5 (4, 5))) := conv_first (w2.drewN dr) #[.int .u8 126, .int .u8 126, .int .u8 126, .int .u8 10] 4 4
          have HI2 := Lib.hid (impl_any (some ⟨w2.heap.size, 0, none⟩) 4 4 3 tl false ⟨#[]⟩ [] ((w2.drewN dr).alloc (.cells #[.int .u8 126, .int .u8 126, .int .u8 126, .int .u8 10] 5 (4, 5))) (Bs.newAt (w2.drewN dr) w2.heap.size rfl tl _ _ _ 4 rfl rfl) tl_fl rfl (by decide) (fun h => by cases h))
          rw [tl_fence] at HI2
          go_wp2_with fail
          refine HI2.out.mono ?_
          rintro e w4 ⟨he, hB4⟩
          have he' : e = .returned (.tuple #[.int .i64 4, .string (str [126, 126, 126]), .string (str [])]) := he
          clear he HI2
          subst he'
          have HB4 := Lib.hid hB4
          clear hB4
          go_wp2_with fail
          go_ret
          exact ⟨rfl, HB2.out.trans ((Below.alloc (Go.Proofs.YtcpkkmpckdcbjaaDoor.Below.drewN (Below.refl w.heap.size w2) dr) hs2 _).trans (HB4.out.mono (by simp; omega)))⟩

end Go.Proofs.YtcpkkmpckdcbjaaDoor
