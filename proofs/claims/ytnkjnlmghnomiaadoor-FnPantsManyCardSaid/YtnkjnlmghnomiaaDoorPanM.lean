/- Smart punctuation: the callback of fractions walked, where a fraction is written. Condition: lengths are bounded. -/
import Derived.Test.YtnkjnlmghnomiaaDoorPanK
namespace Go.Proofs.YtnkjnlmghnomiaaDoor
open Go.ChangeShapes Go.WideShapes Go.ChangeAt Go.RowKit

theorem Bs.part {w : World} {b o n : Nat} {l : List UInt8} (h : Bs w (some ⟨b, o, none⟩) n l) (f t : Nat) (hft : f < t) (ht : t ≤ n) : Bs w (some ⟨b, o + f, none⟩) (t - f) ((l.take t).drop f) := by
  have hl := h.len
  obtain ⟨b', o', e, hlt, hc⟩ := h.cells (by omega)
  cases e
  refine ⟨by rw [List.length_drop, List.length_take]; omega, fun _ => ⟨b, o + f, rfl, hlt, fun i hi => ?_⟩⟩
  rw [Nat.add_assoc, hc (f + i) (by omega)]
  congr 2
  unfold bat
  rw [List.getD_eq_getElem?_getD, List.getD_eq_getElem?_getD, List.getElem?_drop, List.getElem?_take_of_lt (by omega)]

set_option maxHeartbeats 4000000 in
set_option maxRecDepth 100000 in
theorem gen_any (F : Cfg) (B : Nat) (va : Value) (b tb t0 n c : Nat) (m : List UInt8) (prev : Int) (w : World) (h : CbIn F B va b tb t0 n m w) (p q : Nat) (p1 : wbI prev = true) (p2 : (prev != 47) = true) (hp : 0 < p) (hd : ∀ j, j < p → digI (bat m j) = true) (hs : bat m p = 47) (hpq : p + 1 < q)
    (hd2 : ∀ j, p < j → j < q → digI (bat m j) = true) (hb : bat m q = 32) (hl : q < m.length) (hnc : n ≤ c) (hcm : c ≤ maxLen) :
    Calls Tryd.prog 44 #[.pointer (some ⟨B, 0, none⟩), .pointer (some ⟨b, 0, none⟩), .int .u8 prev, .slice (some ⟨tb, t0, none⟩) n c] w (CbSaid F B va b (supL ++ (m.take p ++ (fraslL ++ ((m.take q).drop (p + 1) ++ subL)))) (q - 1) w) := by
  have hln := h.text.len
  have hn6 := h.n6
  have HTl := Lib.hid (show tb < w.heap.size by obtain ⟨b', o', e, hlt, _⟩ := h.text.cells h.n1; cases e; exact hlt)
  have HCe := Lib.hid (fun i (hi : i < m.length) w' (g : Below w.heap.size w w') => (g.cell (p := ⟨tb, t0 + i, none⟩) HTl.out).trans (h.cell i hi))
  have HT := Lib.hid h.text
  have HNb := Lib.hid (show ∀ a : Addr, some ⟨tb, t0, none⟩ = some a → a.block ≠ b ∧ a.block ≠ B from fun a e => by cases e; exact ⟨h.tb', h.tB⟩)
  have HCb := Lib.hid h.cb
  have HTb := Lib.hid h.tb'
  have HD := Lib.hid hd
  have HD2 := Lib.hid hd2
  have HS := Lib.hid hs
  have HB := Lib.hid hb
  have HLn := Lib.hid hln
  have HWb := Lib.hid p1
  unfold maxLen at hcm
  have hqn : q < n := by omega
  have hn3 : ((3 : Int) ≤ (n : Int)) = True := by simp; omega
  clear h hd hd2 hs hb hln p1 hl
  rcases Nat.lt_or_ge (p + 3) n with hp3 | hp3
  all_goals
    go_enter Tryd.func44, Tryd.ntmps44
    go_wp2_with fail
    refine (wb_any _ _).mono ?_
    rintro e w2 ⟨rfl, hbl⟩
    have hwb := HWb.out
    have HBl := Lib.hid hbl
    clear hbl
    go_wp2_with fail
    go_loop [9] (fun t => ∃ k : Nat, k ≤ p ∧ t = .int .i64 k) (fun t => p - (intOf t).toNat)
    case atStart => exact ⟨0, Nat.zero_le _, rfl⟩
    case round =>
      obtain ⟨k, hk, rfl⟩ := hrel
      have ck := HCe.out k (by have := HLn.out; omega) _ HBl.out
      by_cases hlt : k < p
      · have hq := HD.out k hlt
        go_wp2_with (go_at_call 56; refine (isdigit_any _ _).mono ?_; rintro e w' ⟨rfl, rfl⟩)
        go_round
        case rel => exact ⟨k + 1, by omega, by go_num⟩
        case measure => simp [intOf]; omega
      · obtain rfl : k = p := by omega
        rw [HS.out] at ck
        have d47 : digI 47 = false := rfl
        go_wp2_with (go_at_call 56; refine (isdigit_any _ _).mono ?_; rintro e w' ⟨rfl, rfl⟩)
        go_loop [11] (fun t => ∃ j : Nat, k + 1 ≤ j ∧ j ≤ q ∧ t = .int .i64 j) (fun t => q - (intOf t).toNat)
        case atStart => exact ⟨k + 1, Nat.le_refl _, by omega, by go_num⟩
        case round =>
          obtain ⟨j, hj1, hj2, rfl⟩ := hrel
          have cj := HCe.out j (by have := HLn.out; omega) _ HBl.out
          by_cases hlt : j < q
          · have hq := HD2.out j (by omega) hlt
            go_wp2_with (go_at_call 56; refine (isdigit_any _ _).mono ?_; rintro e w' ⟨rfl, rfl⟩)
            go_round
            case rel => exact ⟨j + 1, by omega, by omega, by go_num⟩
            case measure => simp [intOf]; omega
          · obtain rfl : j = q := by omega
            rw [HB.out] at cj
            have d32 : digI 32 = false := rfl
            have wb32 : wbI 32 = true := rfl
            go_wp2_with (first | (go_at_call 56; refine (isdigit_any _ _).mono ?_; rintro e w' ⟨rfl, rfl⟩) | (go_at_call 53; refine (wb_any _ _).mono ?_; rintro e w3 ⟨rfl, hb3⟩; have hbl := HBl.out.trans (hb3.mono HBl.out.size); have cj3 := (HCe.out _ (by have := HLn.out; omega) _ hbl).trans (congrArg some (congrArg (Value.int .u8) HB.out)); have hcb0 := HCb.out.below hbl))
            refine (hcb0.str ⟨#[60, 115, 117, 112, 62]⟩ supL rfl (by decide) ?_).mono ?_
            · simp [supL, fraslL, subL] <;> omega
            rintro e w4 ⟨rfl, hcb1⟩
            go_wp2_with fail
            refine (hcb1.write ((hcb1.text HT.out HNb.out).take k (by omega)) HTb.out (by omega) ?_).mono ?_
            · simp [supL, fraslL, subL] <;> omega
            rintro e w5 ⟨rfl, hcb2⟩
            go_wp2_with fail
            refine (hcb2.str ⟨#[60, 47, 115, 117, 112, 62, 38, 102, 114, 97, 115, 108, 59, 60, 115, 117, 98, 62]⟩ fraslL rfl (by decide) ?_).mono ?_
            · simp [supL, fraslL, subL] <;> omega
            rintro e w6 ⟨rfl, hcb3⟩
            go_wp2_with fail
            refine (hcb3.write ((hcb3.text HT.out HNb.out).part (k + 1) j (by omega) (by omega)) HTb.out (by omega) ?_).mono ?_
            · simp [supL, fraslL, subL] <;> omega
            rintro e w7 ⟨rfl, hcb4⟩
            go_wp2_with fail
            refine (hcb4.str ⟨#[60, 47, 115, 117, 98, 62]⟩ subL rfl (by decide) ?_).mono ?_
            · simp [supL, fraslL, subL] <;> omega
            rintro e w8 ⟨rfl, hcb5⟩
            go_wp2_with fail
            go_ret
            refine ⟨ret_int (by omega), ?_⟩
            simpa using hcb5

end Go.Proofs.YtnkjnlmghnomiaaDoor
