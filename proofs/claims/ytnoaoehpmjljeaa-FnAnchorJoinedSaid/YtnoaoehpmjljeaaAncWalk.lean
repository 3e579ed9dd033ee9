/- The three laws of anchors, walked. No condition. -/
import Derived.Test.YtnoaoehpmjljeaaAncLaw
namespace Go.Proofs.Ytnoaoehpmjljeaa
open Go.ChangeShapes Go.WideShapes Go.ChangeAt Go.RowKit

def plainL (l : List UInt8) : Bool := l.all fun c => decide (c.toNat < 128)
def gapB (l : List UInt8) : Bool := l.all fun c => decide (c.toNat < 128) && !alB c

theorem plain_snoc (l : List UInt8) (c : UInt8) : plainL (l ++ [c]) = (plainL l && decide (c.toNat < 128)) := by simp [plainL]
theorem gap_snoc (l : List UInt8) (c : UInt8) : gapB (l ++ [c]) = (gapB l && (decide (c.toNat < 128) && !alB c)) := by simp [gapB]
theorem all_take {l : List UInt8} {p : UInt8 → Bool} {k : Nat} (h : (l.take k).all p = false) : l.all p = false := by
  rw [List.all_eq_false] at h ⊢
  obtain ⟨x, hx, hp⟩ := h
  exact ⟨x, List.mem_of_mem_take hx, hp⟩

set_option maxHeartbeats 400000 in
theorem isPlain_any (s : ByteArray) (w : World) (_hs : s.size ≤ maxLen) :
    Calls Try.prog 12 #[.string s] w fun e w' => e = .returned (.bool (plainL s.data.toList)) ∧ w = w' := by
  unfold maxLen at _hs
  go_enter Try.func12, Try.ntmps12
  go_wp2
  go_loop [3] (fun t => ∃ k : Nat, k ≤ s.size ∧ t = .int .i64 k ∧ plainL (s.data.toList.take k) = true) (fun t => s.size - (intOf t).toNat)
  case atStart => exact ⟨0, Nat.zero_le _, rfl, rfl⟩
  case round =>
    obtain ⟨k, hk, rfl, hp⟩ := hrel
    have HP := Lib.hid hp
    clear hp
    by_cases hlt : k < s.size
    · have hsn := plain_snoc (s.data.toList.take k) s[k]
      rw [← take_snoc s k hlt, HP.out] at hsn
      have HS := Lib.hid hsn
      clear hsn
      by_cases ha : s[k].toNat < 128
      · have ha' : decide ((128 : Int) ≤ ((s[k].toNat : Nat) : Int)) = false := by simp; omega
        go_wp2
        go_round
        case rel => exact ⟨k + 1, by omega, by go_num, by rw [HS.out]; simp [ha]⟩
        case measure => simp [intOf]; omega
      · have ha' : decide ((128 : Int) ≤ ((s[k].toNat : Nat) : Int)) = true := by simp; omega
        go_wp2
        go_ret
        refine ⟨ret_bool ?_, rfl⟩
        have : plainL (s.data.toList.take (k + 1)) = false := by rw [HS.out]; simp [ha]
        exact (all_take this).symm
    · go_wp2
      go_ret
      refine ⟨ret_bool ?_, rfl⟩
      have hsz : s.data.toList.length = s.size := rfl
      have := HP.out
      rw [List.take_of_length_le (by omega)] at this
      exact this.symm

theorem word_any (n : Int) (w : World) :
    Calls Try.prog 23 #[.int .u8 n] w fun e w' => e = .returned (.bool (alnumI n)) ∧ w = w' := by
  go_enter Try.func23, Try.ntmps23
  go_wp2
  all_goals go_ret
  all_goals refine ⟨ret_bool ?_, rfl⟩
  all_goals unfold alnumI
  all_goals rw [Bool.eq_iff_iff]
  all_goals simp only [Bool.or_eq_true, decide_eq_true_eq, Bool.false_eq_true, true_iff, false_iff]
  all_goals omega

set_option maxHeartbeats 400000 in
theorem isGap_any (s : ByteArray) (w : World) (_hs : s.size ≤ maxLen) :
    Calls Try.prog 15 #[.string s] w fun e w' => e = .returned (.bool (gapB s.data.toList)) ∧ w = w' := by
  unfold maxLen at _hs
  go_enter Try.func15, Try.ntmps15
  go_wp2
  go_loop [3] (fun t => ∃ k : Nat, k ≤ s.size ∧ t = .int .i64 k ∧ gapB (s.data.toList.take k) = true) (fun t => s.size - (intOf t).toNat)
  case atStart => exact ⟨0, Nat.zero_le _, rfl, rfl⟩
  case round =>
    obtain ⟨k, hk, rfl, hp⟩ := hrel
    have HP := Lib.hid hp
    clear hp
    by_cases hlt : k < s.size
    · have hsn := gap_snoc (s.data.toList.take k) s[k]
      rw [← take_snoc s k hlt, HP.out] at hsn
      have HS := Lib.hid hsn
      clear hsn
      by_cases ha : s[k].toNat < 128
      · have ha' : decide ((128 : Int) ≤ ((s[k].toNat : Nat) : Int)) = false := by simp; omega
        by_cases hal : alnumI ((s[k].toNat : Nat) : Int) = true
        · go_wp2_with (go_at_call 23; refine (word_any _ _).mono ?_; rintro e w' ⟨rfl, rfl⟩)
          go_ret
          refine ⟨ret_bool ?_, rfl⟩
          have : gapB (s.data.toList.take (k + 1)) = false := by rw [HS.out]; simp [alB, hal]
          exact (all_take this).symm
        · have hal' : alnumI ((s[k].toNat : Nat) : Int) = false := by simpa using hal
          clear hal
          go_wp2_with (go_at_call 23; refine (word_any _ _).mono ?_; rintro e w' ⟨rfl, rfl⟩)
          go_round
          case rel => exact ⟨k + 1, by omega, by go_num, by rw [HS.out]; simp [ha, alB, hal']⟩
          case measure => simp [intOf]; omega
      · have ha' : decide ((128 : Int) ≤ ((s[k].toNat : Nat) : Int)) = true := by simp; omega
        go_wp2_with fail
        go_ret
        refine ⟨ret_bool ?_, rfl⟩
        have : gapB (s.data.toList.take (k + 1)) = false := by rw [HS.out]; simp [ha]
        exact (all_take this).symm
    · go_wp2_with fail
      go_ret
      refine ⟨ret_bool ?_, rfl⟩
      have hsz : s.data.toList.length = s.size := rfl
      have := HP.out
      rw [List.take_of_length_le (by omega)] at this
      exact this.symm

/-- every byte of a plain text is ASCII -/
theorem plain_get {s : ByteArray} (h : plainL s.data.toList = true) : ∀ i (hi : i < s.size), (s[i]'hi).toNat < 128 := by
  intro i hi
  unfold plainL at h
  rw [List.all_eq_true] at h
  have := h (s[i]'hi) (List.getElem_mem (by simpa using hi))
  simpa using this

theorem implAnchor_any (s : ByteArray) (w : World) (hs : s.size ≤ 1000000) (ha : plainL s.data.toList = true) :
    Calls Try.prog 14 #[.string s] w fun e w' => e = .returned (.string (str (anchor s.data.toList))) ∧ Below w.heap.size w w' := by
  have ha2 := plain_get ha
  go_enter Try.func14, Try.ntmps14
  go_wp2_with fail
  refine (anchor_any s _ hs ha2).mono ?_
  rintro e w1 ⟨rfl, hb⟩
  go_wp2_with fail
  go_ret
  exact ⟨rfl, hb⟩

theorem awake_any (w : World) :
    Calls Try.prog 13 #[] w fun e w' => e = .returned (.bool true) ∧ Below w.heap.size w w' := by
  have hx : (str (anchor [72, 101, 108, 108, 111, 44, 32, 87, 111, 114, 108, 100, 33])) = (⟨#[104, 101, 108, 108, 111, 45, 119, 111, 114, 108, 100]⟩ : ByteArray) := by decide +kernel
  have HX := Lib.hid hx
  clear hx
  go_enter Try.func13, Try.ntmps13
  go_wp2_with fail
  refine (implAnchor_any _ _ (by decide) (by decide +kernel)).mono ?_
  rintro e w1 ⟨rfl, hb⟩
  go_wp2_with fail
  go_ret
  refine ⟨ret_bool ?_, hb⟩
  rw [HX.out]
  decide +kernel

theorem str_size (l : List UInt8) : (str l).size = l.length := by simp [str, ByteArray.size]
theorem anchor_len (l : List UInt8) : (anchor l).length ≤ 2 * l.length := aRun_len l
theorem plain_mem {l : List UInt8} (h : plainL l = true) : ∀ c ∈ l, c.toNat < 128 := by
  unfold plainL at h
  rw [List.all_eq_true] at h
  intro c hc
  simpa using h c hc
theorem mem_plain {l : List UInt8} (h : ∀ c ∈ l, c.toNat < 128) : plainL l = true := by
  unfold plainL
  rw [List.all_eq_true]
  intro c hc
  simpa using h c hc
theorem anchor_plain {l : List UInt8} (h : plainL l = true) : plainL (anchor l) = true := mem_plain (aRun_ascii l (plain_mem h))

/-- FnAnchorAgain returns true and nothing that was there turns -/
theorem fnAnchorAgain_law (s : ByteArray) (w : World) (_hs : s.size ≤ maxLen) :
    Calls Try.prog 4 #[.string s] w fun e w' => e = .returned (.bool true) ∧ Below w.heap.size w w' := by
  have hs' : s.size ≤ 2 ^ 63 - 1 := _hs
  by_cases hbig : 2000 < s.size
  · by_cases hbig2 : 2147483647 < s.size
    · go_enter Try.func4, Try.ntmps4
      go_wp2_with fail
      go_ret
      exact ⟨rfl, Below.refl _ _⟩
    · go_enter Try.func4, Try.ntmps4
      go_wp2_with fail
      refine (awake_any _).mono ?_
      rintro e w1 ⟨rfl, hb⟩
      go_wp2_with fail
      go_ret
      exact ⟨rfl, hb⟩
  by_cases hp : plainL s.data.toList = true
  · have hl : s.data.toList.length = s.size := rfl
    have ha := anchor_len s.data.toList
    have hz := str_size (anchor s.data.toList)
    have c2 := fun w' => implAnchor_any (str (anchor s.data.toList)) w' (by omega) (anchor_plain hp)
    have hd : (str (anchor s.data.toList)).data.toList = anchor s.data.toList := rfl
    rw [hd, anchor_again _ (plain_mem hp)] at c2
    have C2 := Lib.hid c2
    clear hl ha hz c2 hd
    go_enter Try.func4, Try.ntmps4
    go_wp2_with fail
    refine (isPlain_any s _ _hs).mono ?_
    rintro e w1 ⟨rfl, rfl⟩
    go_wp2_with fail
    refine (implAnchor_any s _ (by omega) hp).mono ?_
    rintro e w1 ⟨rfl, hb1⟩
    go_wp2_with fail
    refine (C2.out _).mono ?_
    rintro e w2 ⟨rfl, hb2⟩
    go_wp2_with fail
    refine (awake_any _).mono ?_
    rintro e w3 ⟨rfl, hb3⟩
    go_wp2_with fail
    go_ret
    exact ⟨rfl, hb1.trans ((hb2.trans (hb3.mono hb2.size)).mono hb1.size)⟩
  · have hp' : plainL s.data.toList = false := by simpa using hp
    clear hp
    go_enter Try.func4, Try.ntmps4
    go_wp2_with fail
    refine (isPlain_any s _ _hs).mono ?_
    rintro e w1 ⟨rfl, rfl⟩
    go_wp2_with fail
    refine (awake_any _).mono ?_
    rintro e w1 ⟨rfl, hb⟩
    go_wp2_with fail
    go_ret
    exact ⟨rfl, hb⟩

end Go.Proofs.Ytnoaoehpmjljeaa
