/- Texts of documents: spec.IsDocID, IsDocLine, repeated walked; a string as bytes, one byte appended. Condition: lengths are bounded. -/
import Derived.Test.YtlndmebmcjngfaaGreatDoorDefA
import Derived.ArgAppend
import Derived.Lib.AtoiErrMem
namespace Go.Proofs.YtlndmebmcjngfaaGreatDoor
open Go.ChangeShapes Go.WideShapes Go.ChangeAt Go.RowKit

theorem byte_bat (s : ByteArray) (k : Nat) (h : k < s.size) : ((s[k].toNat : Nat) : Int) = bat s.data.toList k := by
  unfold bat
  have h2 : k < s.data.toList.length := by rw [← Lib.size_eq]; exact h
  have e : s[k] = s.data.toList[k] := rfl
  rw [e]
  simp only [List.getD, List.getElem?_eq_getElem h2, Option.getD_some]
theorem str_data (s : ByteArray) : str s.data.toList = s := by
  apply ByteArray.ext
  apply Array.toList_inj.1
  rfl
theorem str_size (l : List UInt8) : (str l).size = l.length := by
  unfold str
  simp [ByteArray.size]
theorem str_app (a b : List UInt8) : str a ++ str b = str (a ++ b) := by
  apply ByteArray.ext
  apply Array.toList_inj.1
  rw [ByteArray.data_append, Array.toList_append]
  rfl
theorem data_app (a b : ByteArray) : (a ++ b).data.toList = a.data.toList ++ b.data.toList := by simp
theorem lowL_iff {l : List UInt8} : lowL l = true ↔ ∀ j, j < l.length → lowI (bat l j) = true := by
  unfold lowL
  rw [List.all_eq_true]
  constructor
  · intro h j hj
    have e : bat l j = ((l[j]).toNat : Int) := by unfold bat; simp [hj]
    rw [e]
    exact h _ (List.getElem_mem hj)
  · intro h c hc
    obtain ⟨j, hj, rfl⟩ := List.mem_iff_getElem.1 hc
    have e : bat l j = ((l[j]).toNat : Int) := by unfold bat; simp [hj]
    rw [← e]
    exact h j hj
theorem idL_eq {l : List UInt8} : idL l = true ↔ (∀ j, j < l.length → lowI (bat l j) = true) ∧ 0 < l.length ∧ l.length ≤ 20 := by
  unfold idL
  rw [Bool.and_eq_true, Bool.and_eq_true, decide_eq_true_eq, decide_eq_true_eq, lowL_iff, and_assoc]

set_option maxHeartbeats 1000000 in
theorem isDocID_any (s : ByteArray) (w : World) (hs : s.size ≤ 2147483647) :
    Calls Tryz.prog 22 #[.string s] w fun e w' => e = .returned (.bool (idL s.data.toList)) ∧ w = w' := by
  have HL := Lib.hid (show s.data.toList.length = s.size from (Lib.size_eq s).symm)
  go_enter Tryz.func22, Tryz.ntmps22
  go_wp2_with fail
  go_loop [3] (fun t => ∃ k : Nat, k ≤ s.size ∧ t = .int .i64 k ∧ ∀ j, j < k → lowI (bat s.data.toList j) = true) (fun t => s.size - (intOf t).toNat)
  case atStart => exact ⟨0, Nat.zero_le _, rfl, fun j hj => absurd hj (Nat.not_lt_zero j)⟩
  case round =>
    obtain ⟨k, hk, rfl, hr⟩ := hrel
    have HR := Lib.hid hr
    clear hr
    by_cases hlt : k < s.size
    · have HB := Lib.hid (byte_bat s k hlt)
      by_cases hlow : 97 ≤ ((s[k].toNat : Nat) : Int) ∧ ((s[k].toNat : Nat) : Int) ≤ 122
      · obtain ⟨h1, h2⟩ := hlow
        go_wp2_with fail
        go_round
        case rel =>
          refine ⟨k + 1, by omega, by go_num, fun j hj => ?_⟩
          by_cases e : j = k
          · rw [e, ← HB.out]
            unfold lowI
            simp only [decide_eq_true_eq]
            exact ⟨h1, h2⟩
          · exact HR.out j (by omega)
        case measure => simp [intOf]; omega
      · have HF := Lib.hid (show idL s.data.toList = false by
          rw [Bool.eq_false_iff]
          intro h
          have := (idL_eq.1 h).1 k (by rw [HL.out]; exact hlt)
          rw [← HB.out] at this
          unfold lowI at this
          rw [decide_eq_true_eq] at this
          exact hlow this)
        by_cases h1 : 97 ≤ ((s[k].toNat : Nat) : Int)
        · have h2 : 122 < ((s[k].toNat : Nat) : Int) := by omega
          clear hlow
          go_wp2_with fail
          go_ret
          exact ⟨ret_bool HF.out.symm, rfl⟩
        · have h2 : ((s[k].toNat : Nat) : Int) < 97 := by omega
          clear hlow h1
          go_wp2_with fail
          go_ret
          exact ⟨ret_bool HF.out.symm, rfl⟩
    · obtain rfl : s.size = k := by omega
      have HF := Lib.hid (show idL s.data.toList = (decide (0 < s.size) && decide (s.size ≤ 20)) by
        rw [Bool.eq_iff_iff, idL_eq, HL.out]
        simp only [Bool.and_eq_true, decide_eq_true_eq]
        exact ⟨fun h => h.2, fun h => ⟨HR.out, h⟩⟩)
      clear hlt
      by_cases h0 : 0 < s.size
      · have q0 : decide (0 < s.size) = true := decide_eq_true h0
        go_wp2_with fail
        go_ret
        exact ⟨ret_bool (by rw [HF.out, q0, Bool.true_and]; exact decide_eq_decide.2 (by omega)), rfl⟩
      · have q0 : decide (0 < s.size) = false := decide_eq_false h0
        go_wp2_with fail
        go_ret
        exact ⟨ret_bool (by rw [HF.out, q0, Bool.false_and]), rfl⟩

set_option maxHeartbeats 2000000 in
theorem isDocLine_any (s : ByteArray) (w : World) (hs : s.size ≤ 2147483647) :
    Calls Tryz.prog 16 #[.string s] w fun e w' => e = .returned (.bool (docL s.data.toList)) ∧ w = w' := by
  have HL := Lib.hid (show s.data.toList.length = s.size from (Lib.size_eq s).symm)
  go_enter Tryz.func16, Tryz.ntmps16
  go_wp2_with fail
  go_loop [3, 4] (fun t3 t4 => ∃ (k : Nat) (bl : Bool), k ≤ s.size ∧ t4 = .int .i64 k ∧ t3 = .bool bl ∧ docGo true s.data.toList = docGo bl (s.data.toList.drop k)) (fun _ t => s.size - (intOf t).toNat)
  case atStart => exact ⟨0, true, Nat.zero_le _, rfl, rfl, rfl⟩
  case round =>
    obtain ⟨k, bl, hk, rfl, rfl, hr⟩ := hrel
    have HR := Lib.hid hr
    clear hr
    by_cases hlt : k < s.size
    · have HB := Lib.hid (byte_bat s k hlt)
      have HD := Lib.hid (drop_cons s.data.toList k (by rw [HL.out]; exact hlt))
      have HX := Lib.hid (show (((s.data.toList.getD k 0).toNat : Nat) : Int) = ((s[k].toNat : Nat) : Int) from HB.out.symm)
      by_cases h32 : ((s[k].toNat : Nat) : Int) = 32
      · have h32' : (((s[k].toNat : Nat) : Int) == 32) = true := by simpa using h32
        cases bl with
        | true =>
          have HF := Lib.hid (show docL s.data.toList = false by
            unfold docL
            rw [HR.out, HD.out, docGo, HX.out, if_pos h32, if_pos rfl]
            rfl)
          clear h32
          go_wp2_with fail
          go_ret
          exact ⟨ret_bool HF.out.symm, rfl⟩
        | false =>
          have HF := Lib.hid (show docGo false (s.data.toList.drop k) = docGo true (s.data.toList.drop (k + 1)) by
            rw [HD.out, docGo, HX.out, if_pos h32, if_neg (by decide)])
          clear h32
          go_wp2_with fail
          go_round
          case rel => exact ⟨k + 1, true, by omega, by go_num, rfl, by rw [HR.out, HF.out]⟩
          case measure => simp [intOf]; omega
      · have h32' : (((s[k].toNat : Nat) : Int) == 32) = false := by simpa using h32
        by_cases hlow : 97 ≤ ((s[k].toNat : Nat) : Int) ∧ ((s[k].toNat : Nat) : Int) ≤ 122
        · have HF := Lib.hid (show docGo bl (s.data.toList.drop k) = docGo false (s.data.toList.drop (k + 1)) by
            rw [HD.out, docGo, HX.out, if_neg h32, if_pos (by unfold lowI; exact decide_eq_true hlow)])
          obtain ⟨h1, h2⟩ := hlow
          clear h32
          go_wp2_with fail
          go_round
          case rel => exact ⟨k + 1, false, by omega, by go_num, rfl, by rw [HR.out, HF.out]⟩
          case measure => simp [intOf]; omega
        · have HF := Lib.hid (show docL s.data.toList = false by
            unfold docL
            rw [HR.out, HD.out, docGo, HX.out, if_neg h32, if_neg (by unfold lowI; simpa using hlow)]
            rfl)
          clear h32
          by_cases h1 : 97 ≤ ((s[k].toNat : Nat) : Int)
          · have h2 : 122 < ((s[k].toNat : Nat) : Int) := by omega
            clear hlow
            go_wp2_with fail
            go_ret
            exact ⟨ret_bool HF.out.symm, rfl⟩
          · have h2 : ((s[k].toNat : Nat) : Int) < 97 := by omega
            clear hlow h1
            go_wp2_with fail
            go_ret
            exact ⟨ret_bool HF.out.symm, rfl⟩
    · obtain rfl : s.size = k := by omega
      have HF := Lib.hid (show docL s.data.toList = (!bl && decide (s.size ≤ 60)) by
        unfold docL
        rw [HR.out, List.drop_of_length_le (by rw [HL.out]; exact Nat.le_refl _), HL.out]
        rfl)
      clear hlt
      cases bl
      all_goals
        go_wp2_with fail
        go_ret
        exact ⟨ret_bool (by rw [HF.out]; simp <;> omega), rfl⟩

/-- a byte again and again, nothing between -/
theorem repeated_any (c : UInt8) (n : Nat) (w : World) (hn : n ≤ 1000000) :
    Calls Tryz.prog 21 #[.string ⟨#[c]⟩, .int .i64 (n : Int), .string ⟨#[]⟩] w fun e w' => e = .returned (.string (str (List.replicate n c))) ∧ w = w' := by
  go_enter Tryz.func21, Tryz.ntmps21
  go_wp2_with fail
  go_loop [7, 10] (fun t7 t10 => ∃ k : Nat, k ≤ n ∧ t10 = .int .i64 k ∧ t7 = .string (str (List.replicate k c))) (fun _ t => n - (intOf t).toNat)
  case atStart => exact ⟨0, Nat.zero_le _, rfl, rfl⟩
  case round =>
    obtain ⟨k, hk, rfl, rfl⟩ := hrel
    have hsz : (str (List.replicate k c)).size ≤ 1000000 := by rw [str_size, List.length_replicate]; omega
    have HS := Lib.hid (show str (List.replicate k c) ++ (⟨#[c]⟩ : ByteArray) = str (List.replicate (k + 1) c) by
      rw [show (⟨#[c]⟩ : ByteArray) = str [c] from rfl, str_app, List.replicate_succ'])
    have HE := Lib.hid (show str (List.replicate k c) ++ (⟨#[]⟩ : ByteArray) = str (List.replicate k c) by
      rw [show (⟨#[]⟩ : ByteArray) = str [] from rfl, str_app, List.append_nil])
    by_cases hlt : k < n
    · by_cases h0 : (0 : Int) < (k : Int)
      all_goals
        go_wp2_with fail
        go_round
        case rel => exact ⟨k + 1, by omega, by go_num, by first | rw [HE.out, HS.out] | rw [HS.out]⟩
        case measure => simp [intOf]; omega
    · obtain rfl : n = k := by omega
      go_wp2_with fail
      go_ret
      exact ⟨rfl, rfl⟩

end Go.Proofs.YtlndmebmcjngfaaGreatDoor
