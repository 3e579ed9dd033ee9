/- FnAnchorTrimmed and FnAnchorJoined, walked. No condition. -/
import Derived.Test.YtnoaoehpmjljeaaAncWalk
namespace Go.Proofs.Ytnoaoehpmjljeaa
open Go.ChangeShapes Go.WideShapes Go.ChangeAt Go.RowKit

theorem gap_of {l : List UInt8} (h : gapB l = true) : gapL l := by
  unfold gapB at h
  rw [List.all_eq_true] at h
  intro c hc
  have := h c hc
  simp at this
  exact this.2
theorem gap_plain {l : List UInt8} (h : gapB l = true) : plainL l = true := by
  unfold gapB at h
  rw [List.all_eq_true] at h
  refine mem_plain fun c hc => ?_
  have := h c hc
  simp at this
  exact this.1
theorem plain_append {l m : List UInt8} (h : plainL l = true) (h' : plainL m = true) : plainL (l ++ m) = true := by
  unfold plainL at *
  rw [List.all_append, h, h']
  rfl

theorem data_append (a b : ByteArray) : (a ++ b).data.toList = a.data.toList ++ b.data.toList := by simp

set_option maxHeartbeats 1000000 in
/-- FnAnchorTrimmed returns true and nothing that was there turns -/
theorem fnAnchorTrimmed_law (s t u : ByteArray) (w : World) (_hs : s.size ≤ maxLen) (_ht : t.size ≤ maxLen) (_hu : u.size ≤ maxLen) :
    Calls Try.prog 6 #[.string s, .string t, .string u] w fun e w' => e = .returned (.bool true) ∧ Below w.heap.size w w' := by
  have hs' : s.size ≤ 2 ^ 63 - 1 := _hs
  have ht' : t.size ≤ 2 ^ 63 - 1 := _ht
  have hu' : u.size ≤ 2 ^ 63 - 1 := _hu
  obtain ⟨A, hA⟩ : ∃ A, A = (decide (2147483647 < s.size) || decide (2147483647 < t.size) || decide (2147483647 < u.size)) := ⟨_, rfl⟩
  obtain ⟨B, hB⟩ : ∃ B, B = (decide (1000 < t.size) || !plainL t.data.toList || decide (100 < s.size) || decide (100 < u.size) || !gapB s.data.toList || !gapB u.data.toList) := ⟨_, rfl⟩
  have HA := Lib.hid hA
  have HB := Lib.hid hB
  clear hA hB
  go_enter Try.func6, Try.ntmps6
  go_upto_region 1 with fail
  go_cut [19] (fun s wx => s = .bool A ∧ wx = w)
  case first =>
    by_cases h1 : 2147483647 < s.size
    · go_wp2_with fail
      go_meet
      exact ⟨by rw [HA.out]; first | (simp [h1]; done) | (simp [h1]; omega), rfl⟩
    by_cases h2 : 2147483647 < t.size
    · go_wp2_with fail
      go_meet
      exact ⟨by rw [HA.out]; first | (simp [h2]; done) | (simp [h2]; omega), rfl⟩
    by_cases h3 : 2147483647 < u.size
    · go_wp2_with fail
      go_meet
      exact ⟨by rw [HA.out]; first | (simp [h3]; done) | (simp [h3]; omega), rfl⟩
    go_wp2_with fail
    go_meet
    exact ⟨by rw [HA.out]; first | (simp [h1, h2, h3]; done) | (simp [h1, h2, h3]; omega), rfl⟩
  case rest =>
    obtain ⟨rfl, rfl⟩ := hcut
    cases A with
    | true =>
      go_wp2_with fail
      go_ret
      exact ⟨rfl, Below.refl _ _⟩
    | false =>
      go_upto_region 3 with fail
      go_cut [47] (fun s wx => s = .bool B ∧ wx = wc)
      case first =>
        by_cases k1 : 1000 < t.size
        · go_wp2_with (first | (go_at_call 12; refine (isPlain_any _ _ (by assumption)).mono ?_; rintro e w' ⟨rfl, rfl⟩) | (go_at_call 15; refine (isGap_any _ _ (by assumption)).mono ?_; rintro e w' ⟨rfl, rfl⟩))
          go_meet
          exact ⟨by rw [HB.out]; first | (simp [k1]; done) | (simp [k1]; omega), rfl⟩
        by_cases k2 : plainL t.data.toList = false
        · go_wp2_with (first | (go_at_call 12; refine (isPlain_any _ _ (by assumption)).mono ?_; rintro e w' ⟨rfl, rfl⟩) | (go_at_call 15; refine (isGap_any _ _ (by assumption)).mono ?_; rintro e w' ⟨rfl, rfl⟩))
          go_meet
          exact ⟨by rw [HB.out]; first | (simp [k2]; done) | (simp [k2]; omega), rfl⟩
        have k2 : plainL t.data.toList = true := by simpa using k2
        by_cases k3 : 100 < s.size
        · go_wp2_with (first | (go_at_call 12; refine (isPlain_any _ _ (by assumption)).mono ?_; rintro e w' ⟨rfl, rfl⟩) | (go_at_call 15; refine (isGap_any _ _ (by assumption)).mono ?_; rintro e w' ⟨rfl, rfl⟩))
          go_meet
          exact ⟨by rw [HB.out]; first | (simp [k3]; done) | (simp [k3]; omega), rfl⟩
        by_cases k4 : 100 < u.size
        · go_wp2_with (first | (go_at_call 12; refine (isPlain_any _ _ (by assumption)).mono ?_; rintro e w' ⟨rfl, rfl⟩) | (go_at_call 15; refine (isGap_any _ _ (by assumption)).mono ?_; rintro e w' ⟨rfl, rfl⟩))
          go_meet
          exact ⟨by rw [HB.out]; first | (simp [k4]; done) | (simp [k4]; omega), rfl⟩
        by_cases k5 : gapB s.data.toList = false
        · go_wp2_with (first | (go_at_call 12; refine (isPlain_any _ _ (by assumption)).mono ?_; rintro e w' ⟨rfl, rfl⟩) | (go_at_call 15; refine (isGap_any _ _ (by assumption)).mono ?_; rintro e w' ⟨rfl, rfl⟩))
          go_meet
          exact ⟨by rw [HB.out]; first | (simp [k5]; done) | (simp [k5]; omega), rfl⟩
        have k5 : gapB s.data.toList = true := by simpa using k5
        by_cases k6 : gapB u.data.toList = false
        · go_wp2_with (first | (go_at_call 12; refine (isPlain_any _ _ (by assumption)).mono ?_; rintro e w' ⟨rfl, rfl⟩) | (go_at_call 15; refine (isGap_any _ _ (by assumption)).mono ?_; rintro e w' ⟨rfl, rfl⟩))
          go_meet
          exact ⟨by rw [HB.out]; first | (simp [k6]; done) | (simp [k6]; omega), rfl⟩
        have k6 : gapB u.data.toList = true := by simpa using k6
        go_wp2_with (first | (go_at_call 12; refine (isPlain_any _ _ (by assumption)).mono ?_; rintro e w' ⟨rfl, rfl⟩) | (go_at_call 15; refine (isGap_any _ _ (by assumption)).mono ?_; rintro e w' ⟨rfl, rfl⟩))
        go_meet
        exact ⟨by rw [HB.out]; first | (simp [k1, k2, k3, k4, k5, k6]; done) | (simp [k1, k2, k3, k4, k5, k6]; omega), rfl⟩
      case rest =>
        rename_i w0
        obtain ⟨rfl, rfl⟩ := hcut
        cases B with
        | true =>
          go_wp2_with fail
          refine (awake_any _).mono ?_
          rintro e w1 ⟨rfl, hb⟩
          go_wp2_with fail
          go_ret
          exact ⟨rfl, hb⟩
        | false =>
          have hB := HB.out.symm
          simp only [Bool.or_eq_false_iff, decide_eq_false_iff_not, Bool.not_eq_false'] at hB
          obtain ⟨⟨⟨⟨⟨g1, g2⟩, g3⟩, g4⟩, g5⟩, g6⟩ := hB
          have c1 := fun w' => implAnchor_any (s ++ t ++ u) w' (by rw [ByteArray.size_append, ByteArray.size_append]; omega) (by
            rw [data_append, data_append]
            exact plain_append (plain_append (gap_plain g5) g2) (gap_plain g6))
          rw [data_append, data_append, anchor_trimmed _ _ _ (gap_of g5) (gap_of g6)] at c1
          have c2 := fun w' => implAnchor_any t w' (by omega) g2
          have C1 := Lib.hid c1
          have C2 := Lib.hid c2
          clear c1 c2 g2 g5 g6 HA HB
          go_wp2_with fail
          refine (C1.out _).mono ?_
          rintro e w1 ⟨rfl, hb1⟩
          go_wp2_with fail
          refine (C2.out _).mono ?_
          rintro e w2 ⟨rfl, hb2⟩
          go_wp2_with fail
          refine (awake_any _).mono ?_
          rintro e w3 ⟨rfl, hb3⟩
          go_wp2_with fail
          go_ret
          exact ⟨rfl, hb1.trans ((hb2.trans (hb3.mono hb2.size)).mono hb1.size)⟩

end Go.Proofs.Ytnoaoehpmjljeaa
