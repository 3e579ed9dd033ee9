/- Tables: the looks at sizes walked: they say one thing or the other. No condition. -/
import Derived.Test.YtlndmebmcjngfaaGreatDoorTabB
namespace Go.Proofs.YtlndmebmcjngfaaGreatDoor
open Go.ChangeShapes Go.WideShapes Go.ChangeAt Go.RowKit

def FitsSaid (P : Prop) (w : World) (e : Ending) (w' : World) : Prop := (∃ b, e = .returned (.bool b) ∧ (b = true → P)) ∧ w = w'
theorem zzFits5_any (p : Option Addr) (n c : Nat) (S : Nat → ByteArray) (w : World) (h : Strs w p n S) :
    Calls Tryz.prog 15 #[.slice p n c] w (FitsSaid (n ≤ 2147483647 ∧ ∀ i, i < n → (S i).size ≤ 2147483647) w) := by
  have HS := Lib.hid h
  clear h
  by_cases hbig : 2147483647 < n
  · go_enter Tryz.func15, Tryz.ntmps15
    go_wp2_with fail
    go_ret
    exact ⟨⟨_, rfl, fun h => by cases h⟩, rfl⟩
  · go_enter Tryz.func15, Tryz.ntmps15
    go_wp2_with fail
    go_loop [10] (fun t => ∃ k : Nat, k ≤ n ∧ t = .int .i64 k ∧ ∀ i, i < k → (S i).size ≤ 2147483647) (fun t => n - (intOf t).toNat)
    case atStart => exact ⟨0, Nat.zero_le _, rfl, fun i h => absurd h (Nat.not_lt_zero i)⟩
    case round =>
      obtain ⟨k, hk, rfl, hsz⟩ := hrel
      have HSz := Lib.hid hsz
      clear hsz
      by_cases hlt : k < n
      · obtain ⟨b, o, hp, hbl, hcl⟩ := HS.out.cells (by omega)
        subst hp
        have hck := hcl k hlt
        clear hcl
        by_cases hs : 2147483647 < (S k).size
        · go_wp2_with fail
          go_ret
          exact ⟨⟨_, rfl, fun h => by cases h⟩, rfl⟩
        · have HNs := Lib.hid hs
          go_wp2_with fail
          go_round
          case rel =>
            refine ⟨k + 1, by omega, by go_num, fun i hi => ?_⟩
            by_cases e : i = k
            · rw [e]; have := HNs.out; omega
            · exact HSz.out i (by omega)
          case measure => simp [intOf]; omega
      · obtain rfl : k = n := by omega
        go_wp2_with fail
        go_ret
        exact ⟨⟨_, rfl, fun _ => ⟨by omega, HSz.out⟩⟩, rfl⟩

/-- a look that leaves what was there as it was -/
def LookSaid (P : Prop) (w : World) (e : Ending) (w' : World) : Prop := (∃ b, e = .returned (.bool b) ∧ (b = true → P)) ∧ Below w.heap.size w w'
set_option maxHeartbeats 2000000 in
theorem zzFits31_any (pn pa ph : Option Addr) (n cn m ca m2 ch : Nat) (bg en : Bool) (S : Nat → ByteArray) (w : World) (hS : Strs w pn n S) :
    Calls Tryz.prog 5 #[.agg #[.slice pn n cn, .slice pa m ca, .slice ph m2 ch, .bool bg, .bool en]] w (LookSaid (n ≤ 2147483647 ∧ m ≤ 2147483647 ∧ m2 ≤ 2147483647 ∧ ∀ i, i < n → (S i).size ≤ 2147483647) w) := by
  obtain ⟨B, hB⟩ : ∃ B, B = w.heap.size := ⟨_, rfl⟩
  have HN := Lib.hid (TBox.new w (.slice pn n cn) (.slice pa m ca) (.slice ph m2 ch) bg en)
  rw [← hB] at HN
  have HB := Lib.hid hB
  have HS := Lib.hid hS
  clear hS hB
  go_enter Tryz.func5, Tryz.ntmps5
  go_upto_region 0 with fail
  go_cut [1] (fun s wx => s = .pointer (some ⟨B, 0, none⟩) ∧ TBox B w (.slice pn n cn) (.slice pa m ca) (.slice ph m2 ch) bg en wx)
  case first =>
    go_wp2_with fail
    go_meet
    exact ⟨by rw [HB.out], HN.out⟩
  obtain ⟨rfl, hbx⟩ := hcut
  obtain ⟨c0, c1, c2, c3, c4, hb0, hz0⟩ := hbx
  have HB0 := Lib.hid hb0
  have HF := Lib.hid (zzFits5_any pn n cn S wc (HS.out.below hb0 (Nat.le_refl _)))
  clear hb0
  go_wp2_with fail
  refine HF.out.mono ?_
  rintro e w1 ⟨⟨b, rfl, hP⟩, rfl⟩
  have HPs := Lib.hid hP
  clear HF hP
  cases b with
  | false =>
    go_wp2_with fail
    go_ret
    exact ⟨⟨_, rfl, fun h => by cases h⟩, HB0.out⟩
  | true =>
    by_cases h1 : 2147483647 < m
    · go_wp2_with fail
      go_ret
      exact ⟨⟨_, rfl, fun h => by cases h⟩, HB0.out⟩
    · by_cases h2 : 2147483647 < m2
      · go_wp2_with fail
        go_ret
        exact ⟨⟨_, rfl, fun h => by cases h⟩, HB0.out⟩
      · go_wp2_with fail
        go_ret
        exact ⟨⟨_, rfl, fun _ => ⟨(HPs.out (by trivial)).1, by omega, by omega, (HPs.out (by trivial)).2⟩⟩, HB0.out⟩

end Go.Proofs.YtlndmebmcjngfaaGreatDoor
