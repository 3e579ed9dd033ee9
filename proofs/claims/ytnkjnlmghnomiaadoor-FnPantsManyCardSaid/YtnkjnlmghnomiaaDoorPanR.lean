/- Smart punctuation: words, first words, numbers of the spec walked. Condition: lengths are bounded. -/
import Derived.Test.YtnkjnlmghnomiaaDoorPanQ
namespace Go.Proofs.YtnkjnlmghnomiaaDoor
open Go.ChangeShapes Go.WideShapes Go.ChangeAt Go.RowKit

theorem bat_at {l : List UInt8} {k : Nat} (h : k < l.length) : bat l k = ((l[k]).toNat : Int) := by
  unfold bat
  simp only [List.getD, List.getElem?_eq_getElem h, Option.getD_some]
theorem wordsGo_let {w n : Nat} {c : UInt8} {r : List UInt8} {x : Int} (hx : (c.toNat : Int) = x) (h : lettI x = true) : wordsGo w n (c :: r) = (decide (n < 10) && wordsGo w (n + 1) r) := by
  rw [wordsGo, hx, if_pos h]
theorem wordsGo_no {w n : Nat} {c : UInt8} {r : List UInt8} {x : Int} (hx : (c.toNat : Int) = x) (h : lettI x = false) (h2 : ¬ (x = 32 ∧ 0 < n)) : wordsGo w n (c :: r) = false := by
  rw [wordsGo, hx, if_neg (by rw [h]; decide), if_neg h2]
theorem wordsGo_bl {w n : Nat} {c : UInt8} {r : List UInt8} {x : Int} (hx : (c.toNat : Int) = x) (h : x = 32) (h2 : 0 < n) : wordsGo w n (c :: r) = wordsGo (w + 1) 0 r := by
  rw [wordsGo, hx, if_neg (by rw [h]; decide), if_pos ⟨h, h2⟩]

set_option maxHeartbeats 2000000 in
theorem isWords_any (s : ByteArray) (w : World) (hs : s.size ≤ 2147483647) :
    Calls Tryd.prog 25 #[.string s] w fun e w' => e = .returned (.bool (wordsL s.data.toList)) ∧ w = w' := by
  have HL := Lib.hid (show s.data.toList.length = s.size from (Lib.size_eq s).symm)
  go_enter Tryd.func25, Tryd.ntmps25
  go_wp2_with fail
  go_loop [3, 4, 5] (fun t3 t4 t5 => ∃ (k wd m : Nat), k ≤ s.size ∧ wd ≤ k + 1 ∧ m ≤ 10 ∧ t5 = .int .i64 k ∧ t3 = .int .i64 wd ∧ t4 = .int .i64 m ∧ wordsL s.data.toList = wordsGo wd m (s.data.toList.drop k)) (fun _ _ t => s.size - (intOf t).toNat)
  case atStart => exact ⟨0, 1, 0, Nat.zero_le _, by omega, by omega, rfl, rfl, rfl, rfl⟩
  case round =>
    obtain ⟨k, wd, m, hk, hwd, hm, rfl, rfl, rfl, hr⟩ := hrel
    have HR := Lib.hid hr
    clear hr
    by_cases hlt : k < s.size
    · have HB := Lib.hid (byte_bat s k hlt)
      have HD := Lib.hid (drop_cons s.data.toList k (by rw [HL.out]; exact hlt))
      have HX := Lib.hid (show (((s.data.toList.getD k 0).toNat : Nat) : Int) = ((s[k].toNat : Nat) : Int) from HB.out.symm)
      have hcase : (97 ≤ ((s[k].toNat : Nat) : Int) ∧ ((s[k].toNat : Nat) : Int) ≤ 122) ∨ (65 ≤ ((s[k].toNat : Nat) : Int) ∧ ((s[k].toNat : Nat) : Int) ≤ 90) ∨
        ((s[k].toNat : Nat) : Int) < 65 ∨ (90 < ((s[k].toNat : Nat) : Int) ∧ ((s[k].toNat : Nat) : Int) < 97) ∨ 122 < ((s[k].toNat : Nat) : Int) := by omega
      have hLet : (97 ≤ ((s[k].toNat : Nat) : Int) ∧ ((s[k].toNat : Nat) : Int) ≤ 122) ∨ (65 ≤ ((s[k].toNat : Nat) : Int) ∧ ((s[k].toNat : Nat) : Int) ≤ 90) → wordsL s.data.toList = (decide (m < 10) && wordsGo wd (m + 1) (s.data.toList.drop (k + 1))) := by
        intro h
        rw [HR.out, HD.out]
        exact wordsGo_let HX.out (by unfold lettI; simp only [Bool.or_eq_true, decide_eq_true_eq]; exact h)
      have hNo : (((s[k].toNat : Nat) : Int) < 65 ∨ (90 < ((s[k].toNat : Nat) : Int) ∧ ((s[k].toNat : Nat) : Int) < 97) ∨ 122 < ((s[k].toNat : Nat) : Int)) → ¬ (((s[k].toNat : Nat) : Int) = 32 ∧ 0 < m) → wordsL s.data.toList = false := by
        intro h h2
        rw [HR.out, HD.out]
        refine wordsGo_no HX.out ?_ h2
        unfold lettI
        simp only [Bool.or_eq_false_iff, decide_eq_false_iff_not]
        omega
      have HLet := Lib.hid hLet
      have HNo := Lib.hid hNo
      clear hLet hNo
      rcases hcase with ⟨h1, h2⟩ | ⟨h1, h2⟩ | h1 | ⟨h1, h2⟩ | h1
      · have HW := Lib.hid (HLet.out (Or.inl ⟨h1, h2⟩))
        by_cases h10 : m < 10
        · go_wp2_with fail
          go_round
          case rel =>
            refine ⟨k + 1, wd, m + 1, by omega, by omega, by omega, by go_num, rfl, by go_num, ?_⟩
            rw [HW.out, decide_eq_true h10, Bool.true_and]
          case measure => simp [intOf]; omega
        · have HF := Lib.hid (show wordsL s.data.toList = false by rw [HW.out, decide_eq_false h10, Bool.false_and])
          go_wp2_with fail
          go_ret
          exact ⟨ret_bool HF.out.symm, rfl⟩
      · have HW := Lib.hid (HLet.out (Or.inr ⟨h1, h2⟩))
        by_cases h10 : m < 10
        · go_wp2_with fail
          go_round
          case rel =>
            refine ⟨k + 1, wd, m + 1, by omega, by omega, by omega, by go_num, rfl, by go_num, ?_⟩
            rw [HW.out, decide_eq_true h10, Bool.true_and]
          case measure => simp [intOf]; omega
        · have HF := Lib.hid (show wordsL s.data.toList = false by rw [HW.out, decide_eq_false h10, Bool.false_and])
          go_wp2_with fail
          go_ret
          exact ⟨ret_bool HF.out.symm, rfl⟩
      · by_cases h32 : ((s[k].toNat : Nat) : Int) = 32
        · have h32' : (((s[k].toNat : Nat) : Int) == 32) = true := by simpa using h32
          by_cases h0 : 0 < m
          · have HF := Lib.hid (show wordsL s.data.toList = wordsGo (wd + 1) 0 (s.data.toList.drop (k + 1)) by
              rw [HR.out, HD.out]
              exact wordsGo_bl HX.out h32 h0)
            clear h32
            go_wp2_with fail
            go_round
            case rel => exact ⟨k + 1, wd + 1, 0, by omega, by omega, by omega, by go_num, by go_num, rfl, HF.out⟩
            case measure => simp [intOf]; omega
          · have HF := Lib.hid (HNo.out (Or.inl h1) (by omega))
            clear h32
            go_wp2_with fail
            go_ret
            exact ⟨ret_bool HF.out.symm, rfl⟩
        · have h32' : (((s[k].toNat : Nat) : Int) == 32) = false := by simpa using h32
          have HF := Lib.hid (HNo.out (Or.inl h1) (by omega))
          clear h32
          go_wp2_with fail
          go_ret
          exact ⟨ret_bool HF.out.symm, rfl⟩
      · have HF := Lib.hid (HNo.out (Or.inr (Or.inl ⟨h1, h2⟩)) (by omega))
        go_wp2_with fail
        go_ret
        exact ⟨ret_bool HF.out.symm, rfl⟩
      · have HF := Lib.hid (HNo.out (Or.inr (Or.inr h1)) (by omega))
        go_wp2_with fail
        go_ret
        exact ⟨ret_bool HF.out.symm, rfl⟩
    · obtain rfl : s.size = k := by omega
      have HF := Lib.hid (show wordsL s.data.toList = (decide (0 < m) && decide (wd ≤ 4)) by
        rw [HR.out, List.drop_eq_nil_of_le (by rw [HL.out]; exact Nat.le_refl _), wordsGo])
      clear hlt
      by_cases h0 : 0 < m
      · go_wp2_with fail
        go_ret
        exact ⟨ret_bool (by rw [HF.out, decide_eq_true h0, Bool.true_and]; exact decide_eq_decide.2 (by omega)), rfl⟩
      · go_wp2_with fail
        go_ret
        exact ⟨ret_bool (by rw [HF.out, decide_eq_false h0, Bool.false_and]), rfl⟩

set_option maxHeartbeats 2000000 in
/-- the first word: its length -/
theorem firstWord_any (s : ByteArray) (w : World) (hs : s.size ≤ 2147483647) :
    Calls Tryd.prog 26 #[.string s] w fun e w' => ∃ t : ByteArray, e = .returned (.string t) ∧ w = w' ∧ t.size ≤ s.size ∧ (∀ j, j < t.size → bat s.data.toList j ≠ 32) ∧ (t.size = s.size ∨ bat s.data.toList t.size = 32) := by
  go_enter Tryd.func26, Tryd.ntmps26
  go_wp2_with fail
  go_loop [3] (fun t => ∃ k : Nat, k ≤ s.size ∧ t = .int .i64 k ∧ ∀ j, j < k → bat s.data.toList j ≠ 32) (fun t => s.size - (intOf t).toNat)
  case atStart => exact ⟨0, Nat.zero_le _, rfl, fun j hj => absurd hj (Nat.not_lt_zero j)⟩
  case round =>
    obtain ⟨k, hk, rfl, hr⟩ := hrel
    have HR := Lib.hid hr
    clear hr
    by_cases hlt : k < s.size
    · have HB := Lib.hid (byte_bat s k hlt)
      by_cases h32 : ((s[k].toNat : Nat) : Int) = 32
      · have h32' : (((s[k].toNat : Nat) : Int) == 32) = true := by simpa using h32
        have HE := Lib.hid (HB.out.symm.trans h32)
        clear h32
        go_wp2_with fail
        go_ret
        refine ⟨_, rfl, rfl, ?_⟩
        have e : (s.extract 0 k).size = k := by simp [ByteArray.size_extract]; omega
        rw [e]
        exact ⟨by omega, HR.out, Or.inr HE.out⟩
      · have h32' : (((s[k].toNat : Nat) : Int) == 32) = false := by simpa using h32
        have HE := Lib.hid (show bat s.data.toList k ≠ 32 from fun e => h32 (HB.out.trans e))
        clear h32
        go_wp2_with fail
        go_round
        case rel =>
          refine ⟨k + 1, by omega, by go_num, fun j hj => ?_⟩
          by_cases e : j = k
          · rw [e]; exact HE.out
          · exact HR.out j (by omega)
        case measure => simp [intOf]; omega
    · obtain rfl : s.size = k := by omega
      go_wp2_with fail
      go_ret
      exact ⟨_, rfl, rfl, Nat.le_refl _, HR.out, Or.inl rfl⟩

set_option maxHeartbeats 2000000 in
theorem isOne_any (s : ByteArray) (w : World) (hs : s.size ≤ 2147483647) :
    Calls Tryd.prog 27 #[.string s, .bool false] w fun e w' => e = .returned (.bool (oneL s.data.toList)) ∧ w = w' := by
  have HL := Lib.hid (show s.data.toList.length = s.size from (Lib.size_eq s).symm)
  have HW := Lib.hid (isWords_any s w hs)
  go_enter Tryd.func27, Tryd.ntmps27
  go_wp2_with fail
  go_loop [5] (fun t => ∃ k : Nat, k ≤ s.size ∧ t = .int .i64 k ∧ ∀ j, j < k → bat s.data.toList j ≠ 32) (fun t => s.size - (intOf t).toNat)
  case atStart => exact ⟨0, Nat.zero_le _, rfl, fun j hj => absurd hj (Nat.not_lt_zero j)⟩
  case round =>
    obtain ⟨k, hk, rfl, hr⟩ := hrel
    have HR := Lib.hid hr
    clear hr
    by_cases hlt : k < s.size
    · have HB := Lib.hid (byte_bat s k hlt)
      by_cases h32 : ((s[k].toNat : Nat) : Int) = 32
      · have h32' : (((s[k].toNat : Nat) : Int) == 32) = true := by simpa using h32
        have HF := Lib.hid (show oneL s.data.toList = false by
          unfold oneL
          rw [Bool.and_eq_false_iff]
          refine Or.inl ?_
          rw [Bool.eq_false_iff]
          intro h
          rw [List.all_eq_true] at h
          have hk2 : k < s.data.toList.length := by rw [HL.out]; exact hlt
          have := h _ (List.getElem_mem hk2)
          have e : bat s.data.toList k = ((s.data.toList[k]).toNat : Int) := bat_at hk2
          rw [← e, ← HB.out, h32] at this
          cases this)
        clear h32
        go_wp2_with fail
        go_ret
        exact ⟨ret_bool HF.out.symm, rfl⟩
      · have h32' : (((s[k].toNat : Nat) : Int) == 32) = false := by simpa using h32
        have HE := Lib.hid (show bat s.data.toList k ≠ 32 from fun e => h32 (HB.out.trans e))
        clear h32
        go_wp2_with fail
        go_round
        case rel =>
          refine ⟨k + 1, by omega, by go_num, fun j hj => ?_⟩
          by_cases e : j = k
          · rw [e]; exact HE.out
          · exact HR.out j (by omega)
        case measure => simp [intOf]; omega
    · obtain rfl : s.size = k := by omega
      have HF := Lib.hid (show oneL s.data.toList = wordsL s.data.toList by
        unfold oneL
        rw [show (s.data.toList.all fun c => !((c.toNat : Int) == 32)) = true from ?_, Bool.true_and]
        rw [List.all_eq_true]
        intro c hc
        obtain ⟨j, hj, rfl⟩ := List.mem_iff_getElem.1 hc
        have e : bat s.data.toList j = ((s.data.toList[j]).toNat : Int) := bat_at hj
        rw [← e]
        have := HR.out j (by rw [← HL.out]; exact hj)
        simpa using this)
      go_wp2_with fail
      refine HW.out.mono ?_
      rintro e w1 ⟨rfl, rfl⟩
      go_wp2_with fail
      go_ret
      exact ⟨ret_bool HF.out.symm, rfl⟩

end Go.Proofs.YtnkjnlmghnomiaaDoor
