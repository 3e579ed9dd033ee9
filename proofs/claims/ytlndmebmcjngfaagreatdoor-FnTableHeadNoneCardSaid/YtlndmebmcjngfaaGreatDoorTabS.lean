/- Tables: spec.IsTableLine walked. Condition: lengths are bounded. -/
import Derived.Test.YtlndmebmcjngfaaGreatDoorTabB
import Derived.Deep.QuietTactic
namespace Go.Proofs.YtlndmebmcjngfaaGreatDoor
open Go.ChangeShapes Go.WideShapes Go.ChangeAt Go.RowKit

/-- a table line that is one -/
structure LineOk (S : Nat → ByteArray) (n m m2 : Nat) (al hl : List UInt8) : Prop where
  n2 : 2 ≤ n
  n8 : n ≤ 8
  m : m = n
  m2 : m2 = n
  doc : ∀ i, i < n → docL (S i).data.toList = true
  cols : ColsOk al hl n
/-- one column is right -/
def OneOk (S : Nat → ByteArray) (al hl : List UInt8) (i : Nat) : Prop := docL (S i).data.toList = true ∧ bat al i ≤ 3 ∧ 1 ≤ bat hl i ∧ bat hl i ≤ 20 ∧ 3 ≤ bat hl i + bat al i % 2 + bat al i / 2
def LineSaid (S : Nat → ByteArray) (n m m2 : Nat) (al hl : List UInt8) (w : World) (e : Ending) (w' : World) : Prop := ∃ b, e = .returned (.bool b) ∧ (b = true → LineOk S n m m2 al hl) ∧ Below w.heap.size w w'

set_option maxHeartbeats 4000000 in
set_option maxRecDepth 100000 in
theorem isTable_any (pn pa ph : Option Addr) (n cn m ca m2 ch : Nat) (bg en : Bool) (S : Nat → ByteArray) (al hl : List UInt8) (w : World) (hS : Strs w pn n S) (hA : Bs w pa m al) (hH : Bs w ph m2 hl) (hn : n ≤ 2147483647) (hm : m ≤ 2147483647) (hm2 : m2 ≤ 2147483647) (hs : ∀ i, i < n → (S i).size ≤ 2147483647) :
    Calls Tryz.prog 6 #[.agg #[.slice pn n cn, .slice pa m ca, .slice ph m2 ch, .bool bg, .bool en]] w (LineSaid S n m m2 al hl w) := by
  obtain ⟨B, hB⟩ : ∃ B, B = w.heap.size := ⟨_, rfl⟩
  have HN := Lib.hid (TBox.new w (.slice pn n cn) (.slice pa m ca) (.slice ph m2 ch) bg en)
  rw [← hB] at HN
  have HB := Lib.hid hB
  have HS := Lib.hid hS
  have HA := Lib.hid hA
  have HH := Lib.hid hH
  have Hs := Lib.hid hs
  clear hS hA hH hs hB
  go_enter Tryz.func6, Tryz.ntmps6
  go_upto_region 0 with fail
  go_cut [1, 2] (fun s t wx => s = .pointer (some ⟨B, 0, none⟩) ∧ t = .bool false ∧ TBox B w (.slice pn n cn) (.slice pa m ca) (.slice ph m2 ch) bg en wx)
  case first =>
    go_wp2_with fail
    go_meet
    exact ⟨by rw [HB.out], rfl, HN.out⟩
  obtain ⟨rfl, rfl, hbx⟩ := hcut
  have HT := Lib.hid hbx
  obtain ⟨c0, c1, c2, c3, c4, hb0, hz0⟩ := hbx
  have HBl := Lib.hid (Nat.le_of_eq HB.out.symm)
  clear hb0 hz0 HN HB
  by_cases h2 : n < 2
  · go_wp2_with fail
    go_ret
    exact ⟨_, rfl, (fun h => by cases h), HT.out.below⟩
  by_cases h8 : 8 < n
  · go_wp2_with fail
    go_ret
    exact ⟨_, rfl, (fun h => by cases h), HT.out.below⟩
  by_cases hmn : m = n
  case neg =>
    have e : ((m : Int) != (n : Int)) = true := by
      have : (m : Int) ≠ (n : Int) := by omega
      simpa using this
    go_wp2_with fail
    go_ret
    exact ⟨_, rfl, (fun h => by cases h), HT.out.below⟩
  by_cases hm2n : m2 = n
  case neg =>
    have e : ((m2 : Int) != (n : Int)) = true := by
      have : (m2 : Int) ≠ (n : Int) := by omega
      simpa using this
    subst hmn
    go_wp2_with fail
    go_ret
    exact ⟨_, rfl, (fun h => by cases h), HT.out.below⟩
  subst hmn hm2n
  go_wp2_with fail
  go_loopw [37] (fun t wr => ∃ k : Nat, k ≤ m2 ∧ t = .int .i64 k ∧ (∀ i, i < k → OneOk S al hl i) ∧ TBox B w (.slice pn m2 cn) (.slice pa m2 ca) (.slice ph m2 ch) bg en wr) (fun t _ => m2 - (intOf t).toNat)
  case atStart => exact ⟨0, Nat.zero_le _, rfl, (fun i h => absurd h (Nat.not_lt_zero i)), HT.out⟩
  case round =>
    obtain ⟨k, hk, rfl, hok, hbx⟩ := hrel
    have HOk := Lib.hid hok
    have HTr := Lib.hid hbx
    obtain ⟨c0r, c1r, c2r, c3r, c4r, hb0, hz0⟩ := hbx
    clear hb0 hz0 hok
    by_cases hlt : k < m2
    · obtain ⟨b1, o1, rfl, hb1, hc1⟩ := (HS.out.below HTr.out.below (Nat.le_refl _)).cells (by omega)
      obtain ⟨b2, o2, rfl, hb2, hc2⟩ := (HA.out.below HTr.out.below (Nat.le_refl _)).cells (by omega)
      obtain ⟨b3, o3, rfl, hb3, hc3⟩ := (HH.out.below HTr.out.below (Nat.le_refl _)).cells (by omega)
      have cs := hc1 k hlt
      have ka := hc2 k hlt
      have kh := hc3 k hlt
      obtain ⟨q, hq⟩ : ∃ q : Nat, bat hl k = (q : Int) := Int.eq_ofNat_of_zero_le (bat_nonneg hl k)
      obtain ⟨r, hr⟩ : ∃ r : Nat, bat al k = (r : Int) := Int.eq_ofNat_of_zero_le (bat_nonneg al k)
      have hq256 : q < 256 := by have := bat_lt hl k; omega
      have hr256 : r < 256 := by have := bat_lt al k; omega
      rw [hq] at kh
      rw [hr] at ka
      have HQ := Lib.hid hq
      have HR := Lib.hid hr
      have HD := Lib.hid (fun wx => isDocLine_any (S k) wx (Hs.out k hlt))
      clear hc1 hc2 hc3 hb1 hb2 hb3 hq hr
      go_upto_region 6 with fail
      go_cut [5] (fun t wx => ∃ cz : Int, t = .int .i64 cz ∧ 0 ≤ cz ∧ cz ≤ 300 ∧ (r ≤ 3 → cz = (r : Int) % 2 + (r : Int) / 2) ∧ ∃ z, wx = wr.drewN z)
      case first =>
        go_quiet (fail)
        go_wp2_with fail
        go_meet
        exact ⟨_, rfl, by omega, by omega, (fun _ => rfl), _, rfl⟩
      obtain ⟨cz, rfl, hcz0, hcz1, hcz, z, rfl⟩ := hcut
      have HTz := Lib.hid (HTr.out.on HBl.out (Below.drewN (Below.refl _ wr) z))
      cases hd : docL (S k).data.toList with
      | false =>
        have HD2 := Lib.hid (HD.out (wr.drewN z))
        go_wp2_with (go_at_call 16; refine HD2.out.mono ?_; rintro e w2 ⟨rfl, rfl⟩)
        go_ret
        exact ⟨_, rfl, (fun h => by cases h), HTz.out.below⟩
      | true =>
        have HD2 := Lib.hid (HD.out (wr.drewN z))
        have HDt := Lib.hid hd
        rw [hd] at HD2
        clear hd
        have hall : 3 < r ∨ (r ≤ 3 ∧ q < 1) ∨ (r ≤ 3 ∧ 1 ≤ q ∧ 20 < q) ∨ (r ≤ 3 ∧ 1 ≤ q ∧ q ≤ 20 ∧ (q : Int) + cz < 3) ∨ (r ≤ 3 ∧ 1 ≤ q ∧ q ≤ 20 ∧ ¬ ((q : Int) + cz < 3)) := by omega
        rcases hall with g1 | ⟨g1, g2⟩ | ⟨g1, g2, g3⟩ | ⟨g1, g2, g3, g4⟩ | ⟨g1, g2, g3, g4⟩
        · go_wp2_with (go_at_call 16; refine HD2.out.mono ?_; rintro e w2 ⟨rfl, rfl⟩)
          go_ret
          exact ⟨_, rfl, (fun h => by cases h), HTz.out.below⟩
        · have g1' : ¬ (3 < r) := by omega
          obtain rfl : q = 0 := by omega
          go_wp2_with (go_at_call 16; refine HD2.out.mono ?_; rintro e w2 ⟨rfl, rfl⟩)
          go_ret
          exact ⟨_, rfl, (fun h => by cases h), HTz.out.below⟩
        · have g1' : ¬ (3 < r) := by omega
          have g2' : ¬ (q < 1) := by omega
          go_wp2_with (go_at_call 16; refine HD2.out.mono ?_; rintro e w2 ⟨rfl, rfl⟩)
          go_ret
          exact ⟨_, rfl, (fun h => by cases h), HTz.out.below⟩
        · have g1' : ¬ (3 < r) := by omega
          have g2' : ¬ (q < 1) := by omega
          have g3' : ¬ (20 < q) := by omega
          go_wp2_with (go_at_call 16; refine HD2.out.mono ?_; rintro e w2 ⟨rfl, rfl⟩)
          go_ret
          exact ⟨_, rfl, (fun h => by cases h), HTz.out.below⟩
        · have g1' : ¬ (3 < r) := by omega
          have g2' : ¬ (q < 1) := by omega
          have g3' : ¬ (20 < q) := by omega
          have HOne := Lib.hid (show OneOk S al hl k from ⟨HDt.out, by rw [HR.out]; omega, by rw [HQ.out]; omega, by rw [HQ.out]; omega, by rw [HQ.out, HR.out]; have := hcz g1; omega⟩)
          go_wp2_with (go_at_call 16; refine HD2.out.mono ?_; rintro e w2 ⟨rfl, rfl⟩)
          go_roundw
          case rel =>
            refine ⟨k + 1, by omega, by go_num, fun i hi => ?_, HTz.out⟩
            by_cases e : i = k
            · rw [e]; exact HOne.out
            · exact HOk.out i (by omega)
          case measure => simp [intOf]; omega
    · obtain rfl : k = m2 := by omega
      have HLe := Lib.hid (show LineOk S k k k al hl from ⟨by omega, by omega, rfl, rfl, fun i hi => (HOk.out i hi).1, ⟨by omega, fun i hi => (HOk.out i hi).2.2.2.1, fun i hi => (HOk.out i hi).2.2.1, fun i hi => (HOk.out i hi).2.1, fun i hi => (HOk.out i hi).2.2.2.2⟩⟩)
      go_wp2_with fail
      go_ret
      exact ⟨_, rfl, (fun _ => HLe.out), HTr.out.below⟩

end Go.Proofs.YtlndmebmcjngfaaGreatDoor
