/- FnAnchorJoined, walked. No condition. -/
import Derived.Test.YtnoaoehpmjljeaaAncTrim
namespace Go.Proofs.Ytnoaoehpmjljeaa
open Go.ChangeShapes Go.WideShapes Go.ChangeAt Go.RowKit

theorem str_append (l m : List UInt8) : str (l ++ m) = str l ++ str m := by
  apply ByteArray.ext
  simp [str]

set_option maxHeartbeats 1000000 in
set_option maxRecDepth 100000 in
/-- FnAnchorJoined returns true and nothing that was there turns -/
theorem fnAnchorJoined_law (s t u : ByteArray) (w : World) (_hs : s.size ≤ maxLen) (_ht : t.size ≤ maxLen) (_hu : u.size ≤ maxLen) :
    Calls Try.prog 5 #[.string s, .string t, .string u] w fun e w' => e = .returned (.bool true) ∧ Below w.heap.size w w' := by
  have hs' : s.size ≤ 2 ^ 63 - 1 := _hs
  have ht' : t.size ≤ 2 ^ 63 - 1 := _ht
  have hu' : u.size ≤ 2 ^ 63 - 1 := _hu
  obtain ⟨A, hA⟩ : ∃ A, A = (decide (2147483647 < s.size) || decide (2147483647 < t.size) || decide (2147483647 < u.size)) := ⟨_, rfl⟩
  obtain ⟨B, hB⟩ : ∃ B, B = (decide (1000 < s.size) || decide (1000 < u.size) || !plainL s.data.toList || !plainL u.data.toList || decide (t.size < 1) || decide (100 < t.size) || !gapB t.data.toList) := ⟨_, rfl⟩
  have HA := Lib.hid hA
  have HB := Lib.hid hB
  clear hA hB
  go_enter Try.func5, Try.ntmps5
  go_upto_region 1 with fail
  go_cut [22] (fun s wx => s = .bool A ∧ wx = w)
  case first =>
    by_cases h1 : 2147483647 < s.size
    · go_wp2_with fail
      go_meet
      exact ⟨by rw [HA.out]; first | (simp [h1]; done) | (simp [h1]; omega), rfl⟩
    by_cases h2 : 2147483647 < t.size
    · go_wp2_with fail
      go_meet
      exact ⟨by rw [HA.out]; first | (simp [h2]; done) | (simp [h2]; omega), rfl⟩
    by_cases h3 : 2147483647 < u.size
    · go_wp2_with fail
      go_meet
      exact ⟨by rw [HA.out]; first | (simp [h3]; done) | (simp [h3]; omega), rfl⟩
    go_wp2_with fail
    go_meet
    exact ⟨by rw [HA.out]; first | (simp [h1, h2, h3]; done) | (simp [h1, h2, h3]; omega), rfl⟩
  case rest =>
    obtain ⟨rfl, rfl⟩ := hcut
    cases A with
    | true =>
      go_wp2_with fail
      go_ret
      exact ⟨rfl, Below.refl _ _⟩
    | false =>
      go_upto_region 3 with fail
      go_cut [55] (fun s wx => s = .bool B ∧ wx = wc)
      case first =>
        by_cases k1 : 1000 < s.size
        · go_wp2_with (first | (go_at_call 12; refine (isPlain_any _ _ (by assumption)).mono ?_; rintro e w' ⟨rfl, rfl⟩) | (go_at_call 15; refine (isGap_any _ _ (by assumption)).mono ?_; rintro e w' ⟨rfl, rfl⟩))
          go_meet
          exact ⟨by rw [HB.out]; first | (simp [k1]; done) | (simp [k1]; omega), rfl⟩
        by_cases k2 : 1000 < u.size
        · go_wp2_with (first | (go_at_call 12; refine (isPlain_any _ _ (by assumption)).mono ?_; rintro e w' ⟨rfl, rfl⟩) | (go_at_call 15; refine (isGap_any _ _ (by assumption)).mono ?_; rintro e w' ⟨rfl, rfl⟩))
          go_meet
          exact ⟨by rw [HB.out]; first | (simp [k2]; done) | (simp [k2]; omega), rfl⟩
        by_cases k3 : plainL s.data.toList = false
        · go_wp2_with (first | (go_at_call 12; refine (isPlain_any _ _ (by assumption)).mono ?_; rintro e w' ⟨rfl, rfl⟩) | (go_at_call 15; refine (isGap_any _ _ (by assumption)).mono ?_; rintro e w' ⟨rfl, rfl⟩))
          go_meet
          exact ⟨by rw [HB.out]; first | (simp [k3]; done) | (simp [k3]; omega), rfl⟩
        have k3 : plainL s.data.toList = true := by simpa using k3
        by_cases k4 : plainL u.data.toList = false
        · go_wp2_with (first | (go_at_call 12; refine (isPlain_any _ _ (by assumption)).mono ?_; rintro e w' ⟨rfl, rfl⟩) | (go_at_call 15; refine (isGap_any _ _ (by assumption)).mono ?_; rintro e w' ⟨rfl, rfl⟩))
          go_meet
          exact ⟨by rw [HB.out]; first | (simp [k4]; done) | (simp [k4]; omega), rfl⟩
        have k4 : plainL u.data.toList = true := by simpa using k4
        by_cases k5 : t.size < 1
        · go_wp2_with (first | (go_at_call 12; refine (isPlain_any _ _ (by assumption)).mono ?_; rintro e w' ⟨rfl, rfl⟩) | (go_at_call 15; refine (isGap_any _ _ (by assumption)).mono ?_; rintro e w' ⟨rfl, rfl⟩))
          go_meet
          exact ⟨by rw [HB.out]; first | (simp [k5]; done) | (simp [k5]; omega), rfl⟩
        by_cases k6 : 100 < t.size
        · go_wp2_with (first | (go_at_call 12; refine (isPlain_any _ _ (by assumption)).mono ?_; rintro e w' ⟨rfl, rfl⟩) | (go_at_call 15; refine (isGap_any _ _ (by assumption)).mono ?_; rintro e w' ⟨rfl, rfl⟩))
          go_meet
          exact ⟨by rw [HB.out]; first | (simp [k6]; done) | (simp [k6]; omega), rfl⟩
        by_cases k7 : gapB t.data.toList = false
        · go_wp2_with (first | (go_at_call 12; refine (isPlain_any _ _ (by assumption)).mono ?_; rintro e w' ⟨rfl, rfl⟩) | (go_at_call 15; refine (isGap_any _ _ (by assumption)).mono ?_; rintro e w' ⟨rfl, rfl⟩))
          go_meet
          exact ⟨by rw [HB.out]; first | (simp [k7]; done) | (simp [k7]; omega), rfl⟩
        have k7 : gapB t.data.toList = true := by simpa using k7
        go_wp2_with (first | (go_at_call 12; refine (isPlain_any _ _ (by assumption)).mono ?_; rintro e w' ⟨rfl, rfl⟩) | (go_at_call 15; refine (isGap_any _ _ (by assumption)).mono ?_; rintro e w' ⟨rfl, rfl⟩))
        go_meet
        exact ⟨by rw [HB.out]; first | (simp [k1, k2, k3, k4, k5, k6, k7]; done) | (simp [k1, k2, k3, k4, k5, k6, k7]; omega), rfl⟩
      case rest =>
        rename_i w0
        obtain ⟨rfl, rfl⟩ := hcut
        cases B with
        | true =>
          go_wp2_with fail
          refine (awake_any _).mono ?_
          rintro e w1 ⟨rfl, hb⟩
          go_wp2_with fail
          go_ret
          exact ⟨rfl, hb⟩
        | false =>
          have hB := HB.out.symm
          simp only [Bool.or_eq_false_iff, decide_eq_false_iff_not, Bool.not_eq_false'] at hB
          obtain ⟨⟨⟨⟨⟨⟨g1, g2⟩, g3⟩, g4⟩, g5⟩, g6⟩, g7⟩ := hB
          have c1 := fun w' => implAnchor_any (s ++ t ++ u) w' (by rw [ByteArray.size_append, ByteArray.size_append]; omega) (by
            rw [data_append, data_append]
            exact plain_append (plain_append g3 (gap_plain g7)) g4)
          have hne : t.data.toList ≠ [] := by
            intro h
            have : t.size = 0 := by show t.data.toList.length = 0; rw [h]; rfl
            omega
          rw [data_append, data_append, anchor_joined _ _ _ (gap_of g7) hne] at c1
          have c2 := fun w' => implAnchor_any s w' (by omega) g3
          have c3 := fun w' => implAnchor_any u w' (by omega) g4
          have l1 := anchor_len s.data.toList
          have l2 := anchor_len u.data.toList
          have z1 : s.data.toList.length = s.size := rfl
          have z2 : u.data.toList.length = u.size := rfl
          rw [z1] at l1
          rw [z2] at l2
          obtain ⟨x, hx⟩ : ∃ x, anchor s.data.toList = x := ⟨_, rfl⟩
          obtain ⟨y, hy⟩ : ∃ y, anchor u.data.toList = y := ⟨_, rfl⟩
          rw [hx] at c1 c2 l1
          rw [hy] at c1 c3 l2
          have sx := str_size x
          have sy := str_size y
          have lx : (str x).size ≤ 2000 := by omega
          have ly : (str y).size ≤ 2000 := by omega
          have tx := str_toList x
          have ty := str_toList y
          have C1 := Lib.hid c1
          have C2 := Lib.hid c2
          have C3 := Lib.hid c3
          clear c1 c2 c3 g3 g4 g7 HA HB hx hy hne l1 l2 z1 z2 sx sy tx ty
          have tl : ∀ l : List UInt8, l ≠ [] → (str l).toList.isEmpty = false := fun l hl => by
            rw [str_toList]
            cases l with
            | nil => exact absurd rfl hl
            | cons => rfl
          by_cases hx0 : x = []
          · have hx1 : (str x).toList.isEmpty = true := by rw [str_toList, hx0]; rfl
            have hx2 : (str x).toList = [] := by rw [str_toList, hx0]
            have c1 := C1.out
            have he : str y = str x ++ str y := by rw [← str_append, hx0]; rfl
            rw [if_pos hx0, he] at c1
            have C1' := Lib.hid c1
            clear tl hx0 he c1
            go_wp2_with fail
            refine (C2.out _).mono ?_
            rintro e w1 ⟨rfl, hb1⟩
            go_wp2_with fail
            refine (C3.out _).mono ?_
            rintro e w2 ⟨rfl, hb2⟩
            go_wp2_with fail
            refine (C1'.out _).mono ?_
            rintro e w3 ⟨rfl, hb3⟩
            go_wp2_with fail
            refine (awake_any _).mono ?_
            rintro e w4 ⟨rfl, hb4⟩
            go_wp2_with fail
            go_ret
            have hb := hb1.trans ((hb2.trans ((hb3.trans (hb4.mono hb3.size)).mono hb2.size)).mono hb1.size)
            exact ⟨rfl, hb⟩
          · have hx1 := tl x hx0
            have hx2 : ¬ (str x).toList = [] := by rw [str_toList]; exact hx0
            by_cases hy0 : y = []
            · have hy1 : (str y).toList.isEmpty = true := by rw [str_toList, hy0]; rfl
              have hy2 : (str y).toList = [] := by rw [str_toList, hy0]
              have c1 := C1.out
              have he : str x = str x ++ str y := by rw [← str_append, hy0, List.append_nil]
              rw [if_neg hx0, if_pos hy0, he] at c1
              have C1' := Lib.hid c1
              clear tl hx0 he c1 hy0
              go_wp2_with fail
              refine (C2.out _).mono ?_
              rintro e w1 ⟨rfl, hb1⟩
              go_wp2_with fail
              refine (C3.out _).mono ?_
              rintro e w2 ⟨rfl, hb2⟩
              go_wp2_with fail
              refine (C1'.out _).mono ?_
              rintro e w3 ⟨rfl, hb3⟩
              go_wp2_with fail
              refine (awake_any _).mono ?_
              rintro e w4 ⟨rfl, hb4⟩
              go_wp2_with fail
              go_ret
              have hb := hb1.trans ((hb2.trans ((hb3.trans (hb4.mono hb3.size)).mono hb2.size)).mono hb1.size)
              exact ⟨rfl, hb⟩
            · have hy1 := tl y hy0
              have hy2 : ¬ (str y).toList = [] := by rw [str_toList]; exact hy0
              have c1 := C1.out
              have he : str (x ++ 45 :: y) = str x ++ ⟨#[45]⟩ ++ str y := by
                rw [show x ++ 45 :: y = x ++ [45] ++ y by simp, str_append, str_append]
                rfl
              rw [if_neg hx0, if_neg hy0, he] at c1
              have C1' := Lib.hid c1
              clear tl hx0 he c1 hy0
              go_wp2_with fail
              refine (C2.out _).mono ?_
              rintro e w1 ⟨rfl, hb1⟩
              go_wp2_with fail
              refine (C3.out _).mono ?_
              rintro e w2 ⟨rfl, hb2⟩
              go_wp2_with fail
              refine (C1'.out _).mono ?_
              rintro e w3 ⟨rfl, hb3⟩
              go_wp2_with fail
              refine (awake_any _).mono ?_
              rintro e w4 ⟨rfl, hb4⟩
              go_wp2_with fail
              go_ret
              have hb := hb1.trans ((hb2.trans ((hb3.trans (hb4.mono hb3.size)).mono hb2.size)).mono hb1.size)
              exact ⟨rfl, hb⟩

end Go.Proofs.Ytnoaoehpmjljeaa
