/- Tables: spec.TableHeadText walked. Condition: lengths are bounded. -/
import Derived.Test.YtlndmebmcjngfaaGreatDoorTabB
namespace Go.Proofs.YtlndmebmcjngfaaGreatDoor
open Go.ChangeShapes Go.WideShapes Go.ChangeAt Go.RowKit

theorem s124 : (⟨#[124]⟩ : ByteArray) = str [124] := rfl
theorem s58 : (⟨#[58]⟩ : ByteArray) = str [58] := rfl
theorem s32 : (⟨#[32]⟩ : ByteArray) = str [32] := rfl
theorem two_strs (w : World) (a b : ByteArray) (S : Nat → ByteArray) (h0 : S 0 = a) (h1 : S 1 = b) : Strs (w.alloc (.cells #[.string a, .string b] 9)) (some ⟨w.heap.size, 0, none⟩) 2 S := by
  subst h0 h1
  refine ⟨fun _ => ⟨_, 0, rfl, by simp, fun i hi => ?_⟩⟩
  have : i = 0 ∨ i = 1 := by omega
  rcases this with rfl | rfl <;> simp

theorem Owns.mono {w : World} {B B' : Nat} {v : Value} {l : List UInt8} (h : Owns w B v l) (hB : B' ≤ B) : Owns w B' v l := by
  refine ⟨h.1, ?_⟩
  rcases h.2 with hn | ⟨g, cap, cur, hv, hb, rest⟩
  · exact .inl hn
  · exact .inr ⟨g, cap, cur, hv, by omega, rest⟩
/-- spec.DocText at two new strings -/
theorem doc_two (w : World) (g : Nat) (a b : ByteArray) (x y : List UInt8) (hg : g = w.heap.size) (ha : a.data.toList = x) (hb : b.data.toList = y) (hx : x.length ≤ 10000) (hy : y.length ≤ 10000) :
    Calls Tryz.prog 9 #[.slice (some ⟨g, 0, none⟩) 2 2] (w.alloc (.cells #[.string a, .string b] 9)) fun e w' => ∃ v, e = .returned v ∧ Owns w' w.heap.size v (x ++ 10 :: (y ++ [10])) ∧ Below w.heap.size w w' := by
  subst hg ha hb
  have hw : w.heap.size ≤ (w.alloc (.cells #[.string a, .string b] 9)).heap.size := by simp
  refine (docText_any (some ⟨w.heap.size, 0, none⟩) 2 2 (fun i => if i = 0 then a else b) _ (two_strs w a b _ rfl rfl) (by decide) (fun i hi => ?_)).mono ?_
  · rw [Lib.size_eq]
    split
    · exact hx
    · exact hy
  · rintro e w' ⟨v, rfl, ho, hbel⟩
    refine ⟨v, rfl, ?_, ((Below.refl _ w).alloc (Nat.le_refl _) _).trans (hbel.mono hw)⟩
    have : docS (fun i => if i = 0 then a else b) 2 = a.data.toList ++ 10 :: (b.data.toList ++ [10]) := by simp [docS]
    rw [← this]
    exact ho.mono hw

set_option maxHeartbeats 4000000 in
set_option maxRecDepth 100000 in
theorem headText_any (pn pa ph : Option Addr) (n cn m ca ch : Nat) (bg en : Bool) (S : Nat → ByteArray) (al hl : List UInt8) (w : World) (hS : Strs w pn n S) (hA : Bs w pa m al) (hH : Bs w ph m hl) (hn : n ≤ 8) (hs : ∀ i, i < n → (S i).size ≤ 60) (hok : ColsOk al hl m) :
    Calls Tryz.prog 8 #[.agg #[.slice pn n cn, .slice pa m ca, .slice ph m ch, .bool bg, .bool en]] w fun e w' => ∃ v, e = .returned v ∧ Owns w' w.heap.size v (headL S n al hl m bg en) ∧ Below w.heap.size w w' := by
  obtain ⟨B, hB⟩ : ∃ B, B = w.heap.size := ⟨_, rfl⟩
  have HN := Lib.hid (TBox.new w (.slice pn n cn) (.slice pa m ca) (.slice ph m ch) bg en)
  rw [← hB] at HN
  have HB := Lib.hid hB
  have HS := Lib.hid hS
  have HA := Lib.hid hA
  have HH := Lib.hid hH
  have Hs := Lib.hid hs
  have HOk := Lib.hid hok
  clear hS hA hH hs hB hok
  have hm8 := HOk.out.m8
  go_enter Tryz.func8, Tryz.ntmps8
  go_upto_region 0 with fail
  go_cut [1] (fun s wx => s = .pointer (some ⟨B, 0, none⟩) ∧ TBox B w (.slice pn n cn) (.slice pa m ca) (.slice ph m ch) bg en wx)
  case first =>
    go_wp2_with fail
    go_meet
    exact ⟨by rw [HB.out], HN.out⟩
  obtain ⟨rfl, hbx⟩ := hcut
  obtain ⟨c0, c1, c2, c3, c4, hb0, hz0⟩ := hbx
  have HB0 := Lib.hid hb0
  have HJ := Lib.hid (show Calls Tryz.prog 20 #[.slice pn n cn, .string ⟨#[32, 124, 32]⟩] wc (fun e w' => e = .returned (.string (str (joinS S [32, 124, 32] n))) ∧ wc = w') from joined_any pn n cn S ⟨#[32, 124, 32]⟩ wc (HS.out.below hb0 (Nat.le_refl _)) (by omega) (fun i hi => by have := Hs.out i hi; omega) (by decide))
  have HA2 := Lib.hid (HA.out.below hb0 (Nat.le_refl _))
  have HH2 := Lib.hid (HH.out.below hb0 (Nat.le_refl _))
  clear hb0
  go_wp2_with fail
  refine HJ.out.mono ?_
  rintro e w1 ⟨rfl, rfl⟩
  clear HJ
  go_wp2_with fail
  go_loop [13, 4] (fun t v => ∃ k : Nat, k ≤ m ∧ t = .int .i64 k ∧ v = .string (str (belowK en al hl m k))) (fun t _ => m - (intOf t).toNat)
  case atStart => exact ⟨0, Nat.zero_le _, rfl, by
    unfold belowK
    split
    · rename_i e
      rw [← e]
      rfl
    · rfl⟩
  case round =>
    obtain ⟨k, hk, rfl, rfl⟩ := hrel
    have HLe := Lib.hid (belowK_le (en := en) HOk.out k hk)
    have hsz : (str (belowK en al hl m k)).size ≤ 1000 := by rw [str_size]; have := HLe.out; omega
    by_cases hlt : k < m
    · obtain ⟨b1, o1, rfl, hb1, hc1⟩ := HA2.out.cells (by omega)
      obtain ⟨b2, o2, rfl, hb2, hc2⟩ := HH2.out.cells (by omega)
      have ka := hc1 k hlt
      have kh := hc2 k hlt
      have HR := Lib.hid (belowK_succ en al hl m k hlt)
      obtain ⟨q, hq⟩ : ∃ q : Nat, bat hl k = (q : Int) := Int.eq_ofNat_of_zero_le (bat_nonneg hl k)
      obtain ⟨r, hr⟩ : ∃ r : Nat, bat al k = (r : Int) := Int.eq_ofNat_of_zero_le (bat_nonneg al k)
      have hq20 : q ≤ 20 := by have := HOk.out.h20 k hlt; omega
      have hr3 : r ≤ 3 := by have := HOk.out.a3 k hlt; omega
      have HC := Lib.hid (show colAt al hl k = ((r : Int), q) by unfold colAt; rw [hq, hr]; rfl)
      rw [hq] at kh
      rw [hr] at ka
      have HRep := Lib.hid (repeated_any 45 q wc (by omega))
      have hrs : (str (List.replicate q 45)).size ≤ 20 := by rw [str_size, List.length_replicate]; exact hq20
      clear hc1 hc2 hq hr
      have hr4 : r = 0 ∨ r = 1 ∨ r = 2 ∨ r = 3 := by omega
      have hend : (decide (k < m - 1) = true ∧ (k : Int) < (m : Int) - 1) ∨ (decide (k < m - 1) = false ∧ (m : Int) - 1 ≤ (k : Int) ∧ en = true) ∨ (decide (k < m - 1) = false ∧ (m : Int) - 1 ≤ (k : Int) ∧ en = false) := by
        by_cases h : k < m - 1
        · exact Or.inl ⟨decide_eq_true h, by omega⟩
        · cases en
          · exact Or.inr (Or.inr ⟨decide_eq_false h, by omega, rfl⟩)
          · exact Or.inr (Or.inl ⟨decide_eq_false h, by omega, rfl⟩)
      by_cases h0 : 0 < k
      · rcases hr4 with rfl | rfl | rfl | rfl
        all_goals
          rcases hend with ⟨hd, hx⟩ | ⟨hd, hx, hen⟩ | ⟨hd, hx, hen⟩
          all_goals
            try subst hen
            go_wp2_with (go_at_call 21; refine HRep.out.mono ?_; rintro e w2 ⟨rfl, rfl⟩)
            go_round
            case rel =>
              refine ⟨k + 1, by omega, by go_num, congrArg Value.string ?_⟩
              rw [HR.out, HC.out, hd]
              simp only [s124, s58, s32, str_app]
              congr 1
              simp [colL, h0]
            case measure => simp [intOf]; omega
      · obtain rfl : k = 0 := by omega
        rw [Nat.add_zero] at ka kh
        rcases hr4 with rfl | rfl | rfl | rfl
        all_goals
          rcases hend with ⟨hd, hx⟩ | ⟨hd, hx, hen⟩ | ⟨hd, hx, hen⟩
          all_goals
            try subst hen
            go_wp2_with (go_at_call 21; refine HRep.out.mono ?_; rintro e w2 ⟨rfl, rfl⟩)
            go_round
            case rel =>
              refine ⟨1, by omega, by go_num, congrArg Value.string ?_⟩
              rw [HR.out, HC.out, hd]
              simp only [s124, s58, s32, str_app]
              congr 1
              simp [colL]
            case measure => simp [intOf]; omega
    · obtain rfl : k = m := by omega
      have hjl := joinS_le S [32, 124, 32] 60 n (fun i hi => Hs.out i hi)
      have hj2 : (joinS S [32, 124, 32] n).length ≤ 600 := by
        have : n * (60 + [32, 124, 32].length) ≤ 8 * 63 := Nat.mul_le_mul hn (by simp)
        omega
      have hsj : (str (joinS S [32, 124, 32] n)).size ≤ 600 := by rw [str_size]; exact hj2
      have hs1 : ((⟨#[124]⟩ : ByteArray) ++ str (joinS S [32, 124, 32] n)).size ≤ 601 := by rw [s124, str_app, str_size]; simp; omega
      have hs2 : ((⟨#[124]⟩ : ByteArray) ++ str (belowK en al hl k k)).size ≤ 1001 := by rw [s124, str_app, str_size]; rw [str_size] at hsz; simp; omega
      have HJ2 := Lib.hid hj2
      have HSz := Lib.hid hsz
      have HBK := Lib.hid (show belowK en al hl k k = belowF en (colsOf al hl k) by unfold belowK; rw [if_pos rfl])
      clear hjl hj2
      cases bg
      · cases en
        · go_wp2_with fail
          refine (doc_two wc _ _ _ (overL S n false false) (lowerL al hl k false false) rfl ?_ ?_ ?_ ?_).mono ?_
          · simp [overL, str]
          · rw [HBK.out]; simp [lowerL, str]
          · have := HJ2.out; simp [overL]; omega
          · have h1 := HSz.out; rw [str_size, HBK.out] at h1; simp [lowerL]; omega
          · rintro e w2 ⟨v, rfl, ho, hb2⟩
            have HO := Lib.hid ho
            have HB2 := Lib.hid hb2
            clear ho hb2
            go_wp2_with fail
            go_ret
            exact ⟨_, rfl, HO.out.mono HB0.out.size, HB0.out.trans (HB2.out.mono HB0.out.size)⟩
        · go_wp2_with fail
          refine (doc_two wc _ _ _ (overL S n false true) (lowerL al hl k false true) rfl ?_ ?_ ?_ ?_).mono ?_
          · simp [overL, str]
          · rw [HBK.out]; simp [lowerL, str]
          · have := HJ2.out; simp [overL]; omega
          · have h1 := HSz.out; rw [str_size, HBK.out] at h1; simp [lowerL]; omega
          · rintro e w2 ⟨v, rfl, ho, hb2⟩
            have HO := Lib.hid ho
            have HB2 := Lib.hid hb2
            clear ho hb2
            go_wp2_with fail
            go_ret
            exact ⟨_, rfl, HO.out.mono HB0.out.size, HB0.out.trans (HB2.out.mono HB0.out.size)⟩
      · cases en
        · go_wp2_with fail
          refine (doc_two wc _ _ _ (overL S n true false) (lowerL al hl k true false) rfl ?_ ?_ ?_ ?_).mono ?_
          · simp [overL, str]
          · rw [HBK.out]; simp [lowerL, str]
          · have := HJ2.out; simp [overL]; omega
          · have h1 := HSz.out; rw [str_size, HBK.out] at h1; simp [lowerL]; omega
          · rintro e w2 ⟨v, rfl, ho, hb2⟩
            have HO := Lib.hid ho
            have HB2 := Lib.hid hb2
            clear ho hb2
            go_wp2_with fail
            go_ret
            exact ⟨_, rfl, HO.out.mono HB0.out.size, HB0.out.trans (HB2.out.mono HB0.out.size)⟩
        · go_wp2_with fail
          refine (doc_two wc _ _ _ (overL S n true true) (lowerL al hl k true true) rfl ?_ ?_ ?_ ?_).mono ?_
          · simp [overL, str]
          · rw [HBK.out]; simp [lowerL, str]
          · have := HJ2.out; simp [overL]; omega
          · have h1 := HSz.out; rw [str_size, HBK.out] at h1; simp [lowerL]; omega
          · rintro e w2 ⟨v, rfl, ho, hb2⟩
            have HO := Lib.hid ho
            have HB2 := Lib.hid hb2
            clear ho hb2
            go_wp2_with fail
            go_ret
            exact ⟨_, rfl, HO.out.mono HB0.out.size, HB0.out.trans (HB2.out.mono HB0.out.size)⟩

end Go.Proofs.YtlndmebmcjngfaaGreatDoor
