/- Tags: closures of the reference, the names of tags, the values of attributes, walked. Condition: lengths are bounded. -/
import Derived.Test.YtkjbmekpcjfenaaTagB
namespace Go.Proofs.Ytkjbmekpcjfenaa
open Go.ChangeShapes Go.WideShapes Go.ChangeAt Go.RowKit

/-- a byte of a value without quotes -/
def valI (n : Int) : Bool := decide (32 < n) && n != 34 && n != 39 && n != 61 && n != 60 && n != 62 && n != 96
/-- another byte than q -/
def neI (q n : Int) : Bool := n != q

theorem inTagName1_any (n : Int) (w : World) :
    Calls Try.prog 28 #[.int .u8 n] w fun e w' => e = .returned (.bool (nameI n)) ∧ w = w' := by
  cases hlettI : lettI n with
  | true =>
    go_enter Try.func28, Try.ntmps28
    go_wp2_with (first | (go_at_call 24; refine (inLetter_any _ _).mono ?_; rintro e w' ⟨rfl, rfl⟩) | (go_at_call 25; refine (inDigit_any _ _).mono ?_; rintro e w' ⟨rfl, rfl⟩))
    go_ret
    exact ⟨ret_bool (by simp [nameI, hlettI]), rfl⟩
  | false =>
    cases hdigI : digI n with
    | true =>
      go_enter Try.func28, Try.ntmps28
      go_wp2_with (first | (go_at_call 24; refine (inLetter_any _ _).mono ?_; rintro e w' ⟨rfl, rfl⟩) | (go_at_call 25; refine (inDigit_any _ _).mono ?_; rintro e w' ⟨rfl, rfl⟩))
      go_ret
      exact ⟨ret_bool (by simp [nameI, hlettI, hdigI]), rfl⟩
    | false =>
      go_enter Try.func28, Try.ntmps28
      go_wp2_with (first | (go_at_call 24; refine (inLetter_any _ _).mono ?_; rintro e w' ⟨rfl, rfl⟩) | (go_at_call 25; refine (inDigit_any _ _).mono ?_; rintro e w' ⟨rfl, rfl⟩))
      go_ret
      exact ⟨ret_bool (by simp [nameI, hlettI, hdigI]), rfl⟩

theorem inNameByte_any (n : Int) (w : World) :
    Calls Try.prog 38 #[.int .u8 n] w fun e w' => e = .returned (.bool (attrI n)) ∧ w = w' := by
  cases hlettI : lettI n with
  | true =>
    go_enter Try.func38, Try.ntmps38
    go_wp2_with (first | (go_at_call 24; refine (inLetter_any _ _).mono ?_; rintro e w' ⟨rfl, rfl⟩) | (go_at_call 25; refine (inDigit_any _ _).mono ?_; rintro e w' ⟨rfl, rfl⟩))
    go_ret
    exact ⟨ret_bool (by simp [attrI, hlettI]), rfl⟩
  | false =>
    cases hdigI : digI n with
    | true =>
      go_enter Try.func38, Try.ntmps38
      go_wp2_with (first | (go_at_call 24; refine (inLetter_any _ _).mono ?_; rintro e w' ⟨rfl, rfl⟩) | (go_at_call 25; refine (inDigit_any _ _).mono ?_; rintro e w' ⟨rfl, rfl⟩))
      go_ret
      exact ⟨ret_bool (by simp [attrI, hlettI, hdigI]), rfl⟩
    | false =>
      by_cases e58 : n = 58
      · have q58 : (n == 58) = true := by simp [e58]
        have r58 : (n != 58) = false := by simp [e58]
        clear e58
        go_enter Try.func38, Try.ntmps38
        go_wp2_with (first | (go_at_call 24; refine (inLetter_any _ _).mono ?_; rintro e w' ⟨rfl, rfl⟩) | (go_at_call 25; refine (inDigit_any _ _).mono ?_; rintro e w' ⟨rfl, rfl⟩))
        go_ret
        exact ⟨ret_bool (by simp [attrI, hlettI, hdigI, q58]), rfl⟩
      have q58 : (n == 58) = false := by simp [e58]
      have r58 : (n != 58) = true := by simp [e58]
      clear e58
      by_cases e46 : n = 46
      · have q46 : (n == 46) = true := by simp [e46]
        have r46 : (n != 46) = false := by simp [e46]
        clear e46
        go_enter Try.func38, Try.ntmps38
        go_wp2_with (first | (go_at_call 24; refine (inLetter_any _ _).mono ?_; rintro e w' ⟨rfl, rfl⟩) | (go_at_call 25; refine (inDigit_any _ _).mono ?_; rintro e w' ⟨rfl, rfl⟩))
        go_ret
        exact ⟨ret_bool (by simp [attrI, hlettI, hdigI, q46]), rfl⟩
      have q46 : (n == 46) = false := by simp [e46]
      have r46 : (n != 46) = true := by simp [e46]
      clear e46
      by_cases e95 : n = 95
      · have q95 : (n == 95) = true := by simp [e95]
        have r95 : (n != 95) = false := by simp [e95]
        clear e95
        go_enter Try.func38, Try.ntmps38
        go_wp2_with (first | (go_at_call 24; refine (inLetter_any _ _).mono ?_; rintro e w' ⟨rfl, rfl⟩) | (go_at_call 25; refine (inDigit_any _ _).mono ?_; rintro e w' ⟨rfl, rfl⟩))
        go_ret
        exact ⟨ret_bool (by simp [attrI, hlettI, hdigI, q95]), rfl⟩
      have q95 : (n == 95) = false := by simp [e95]
      have r95 : (n != 95) = true := by simp [e95]
      clear e95
      go_enter Try.func38, Try.ntmps38
      go_wp2_with (first | (go_at_call 24; refine (inLetter_any _ _).mono ?_; rintro e w' ⟨rfl, rfl⟩) | (go_at_call 25; refine (inDigit_any _ _).mono ?_; rintro e w' ⟨rfl, rfl⟩))
      go_ret
      exact ⟨ret_bool (by simp [attrI, hlettI, hdigI, q58, q46, q95]), rfl⟩

theorem inValueByte_any (n : Int) (w : World) :
    Calls Try.prog 40 #[.int .u8 n] w fun e w' => e = .returned (.bool (valI n)) ∧ w = w' := by
  by_cases h32 : 32 < n
  · skip
    by_cases e34 : n = 34
    · have q34 : (n == 34) = true := by simp [e34]
      have r34 : (n != 34) = false := by simp [e34]
      clear e34
      go_enter Try.func40, Try.ntmps40
      go_wp2_with fail
      go_ret
      exact ⟨ret_bool (by simp [valI, r34]), rfl⟩
    have q34 : (n == 34) = false := by simp [e34]
    have r34 : (n != 34) = true := by simp [e34]
    clear e34
    by_cases e39 : n = 39
    · have q39 : (n == 39) = true := by simp [e39]
      have r39 : (n != 39) = false := by simp [e39]
      clear e39
      go_enter Try.func40, Try.ntmps40
      go_wp2_with fail
      go_ret
      exact ⟨ret_bool (by simp [valI, r39]), rfl⟩
    have q39 : (n == 39) = false := by simp [e39]
    have r39 : (n != 39) = true := by simp [e39]
    clear e39
    by_cases e61 : n = 61
    · have q61 : (n == 61) = true := by simp [e61]
      have r61 : (n != 61) = false := by simp [e61]
      clear e61
      go_enter Try.func40, Try.ntmps40
      go_wp2_with fail
      go_ret
      exact ⟨ret_bool (by simp [valI, r61]), rfl⟩
    have q61 : (n == 61) = false := by simp [e61]
    have r61 : (n != 61) = true := by simp [e61]
    clear e61
    by_cases e60 : n = 60
    · have q60 : (n == 60) = true := by simp [e60]
      have r60 : (n != 60) = false := by simp [e60]
      clear e60
      go_enter Try.func40, Try.ntmps40
      go_wp2_with fail
      go_ret
      exact ⟨ret_bool (by simp [valI, r60]), rfl⟩
    have q60 : (n == 60) = false := by simp [e60]
    have r60 : (n != 60) = true := by simp [e60]
    clear e60
    by_cases e62 : n = 62
    · have q62 : (n == 62) = true := by simp [e62]
      have r62 : (n != 62) = false := by simp [e62]
      clear e62
      go_enter Try.func40, Try.ntmps40
      go_wp2_with fail
      go_ret
      exact ⟨ret_bool (by simp [valI, r62]), rfl⟩
    have q62 : (n == 62) = false := by simp [e62]
    have r62 : (n != 62) = true := by simp [e62]
    clear e62
    go_enter Try.func40, Try.ntmps40
    go_wp2_with fail
    go_ret
    exact ⟨ret_bool (by simp [valI, h32, r34, r39, r61, r60, r62]), rfl⟩
  · have h32' : decide (32 < n) = false := by simp; omega
    go_enter Try.func40, Try.ntmps40
    go_wp2_with fail
    go_ret
    exact ⟨ret_bool (by simp only [valI, h32', Bool.false_and]), rfl⟩

theorem tagEnd1_any (n : Int) (w : World) :
    Calls Try.prog 21 #[.int .u8 n] w fun e w' => e = .returned (.bool (neI 10 n)) ∧ w = w' := by
  go_enter Try.func21, Try.ntmps21
  go_wp2
  go_ret
  exact ⟨ret_bool rfl, rfl⟩

theorem bang1_any (n : Int) (w : World) :
    Calls Try.prog 31 #[.int .u8 n] w fun e w' => e = .returned (.bool (neI 62 n)) ∧ w = w' := by
  go_enter Try.func31, Try.ntmps31
  go_wp2
  go_ret
  exact ⟨ret_bool rfl, rfl⟩

theorem attrEnd1_any (a : Addr) (q : Int) (w : World) (hc : w.cell? a = some (.int .u8 q)) (n : Int) :
    Calls Try.prog 39 #[.int .u8 n, .pointer (some a)] w fun e w' => e = .returned (.bool (neI q n)) ∧ w = w' := by
  go_enter Try.func39, Try.ntmps39
  go_wp2
  go_ret
  exact ⟨ret_bool rfl, rfl⟩

theorem enters_inSpace : ∀ args w, (callFunc 17 args).run Try.prog w = .ok (.enter 17 args) w := enters_of Try.func17 (by kernel_rfl) rfl
theorem enters_inTagName1 : ∀ args w, (callFunc 28 args).run Try.prog w = .ok (.enter 28 args) w := enters_of Try.func28 (by kernel_rfl) rfl
theorem enters_inNameByte : ∀ args w, (callFunc 38 args).run Try.prog w = .ok (.enter 38 args) w := enters_of Try.func38 (by kernel_rfl) rfl
theorem enters_inValueByte : ∀ args w, (callFunc 40 args).run Try.prog w = .ok (.enter 40 args) w := enters_of Try.func40 (by kernel_rfl) rfl
theorem enters_tagEnd1 : ∀ args w, (callFunc 21 args).run Try.prog w = .ok (.enter 21 args) w := enters_of Try.func21 (by kernel_rfl) rfl
theorem enters_bang1 : ∀ args w, (callFunc 31 args).run Try.prog w = .ok (.enter 31 args) w := enters_of Try.func31 (by kernel_rfl) rfl
theorem enters_attrEnd1 : ∀ args w, (callFunc 39 args).run Try.prog w = .ok (.enter 39 args) w := enters_of Try.func39 (by kernel_rfl) rfl
theorem enters_inLetter2 : ∀ args w, (callFunc 24 args).run Try.prog w = .ok (.enter 24 args) w := enters_of Try.func24 (by kernel_rfl) rfl

set_option maxHeartbeats 400000 in
theorem inTagName_any (p : Option Addr) (n c : Nat) (l : List UInt8) (i : Nat) (j : Int) (w : World) (h : Bs w p n l) (hj : j = i) (hn : n ≤ 1000000) (hi : i ≤ 1000000) :
    Calls Try.prog 15 #[.slice p n c, .int .i64 j] w fun e w' => e = .returned (.int .i64 (tname l i)) ∧ w = w' := by
  subst hj
  have hl := h.len
  by_cases hlt : i < n
  · obtain ⟨b, o, rfl, _, hc⟩ := h.cells (by omega)
    have c1 := hc i hlt
    clear hc
    have hln : letN l i = if lettI (bat l i) then 1 else 0 := letN_eq (by omega)
    cases hp : lettI (bat l i) with
    | true =>
      have hv : tname l i = run nameI l i := by rw [tname, hln, hp]; rfl
      have r1 := inRun_any nameI 28 #[] (fun x w => inTagName1_any x w) enters_inTagName1 (some ⟨b, o, none⟩) n c l i i w h rfl (by omega) (by omega)
      rw [← hv] at r1
      have R1 := Lib.hid r1
      clear hv hln r1 hl
      go_enter Try.func15, Try.ntmps15
      go_wp2_with (go_at_call 24; refine (inLetter_any _ _).mono ?_; rintro e w' ⟨rfl, rfl⟩)
      refine R1.out.mono ?_
      rintro e w' ⟨rfl, rfl⟩
      go_wp2_with fail
      go_ret
      exact ⟨rfl, rfl⟩
    | false =>
      have hv : tname l i = 0 := by rw [tname, hln, hp]; rfl
      have HV := Lib.hid hv
      clear hv hln hl
      go_enter Try.func15, Try.ntmps15
      go_wp2_with (go_at_call 24; refine (inLetter_any _ _).mono ?_; rintro e w' ⟨rfl, rfl⟩)
      go_ret
      exact ⟨ret_int (by rw [HV.out]; rfl), rfl⟩
  · have h0 : letN l i = 0 := by rw [letN, if_neg (by rintro ⟨e, _⟩; omega)]
    have hv : tname l i = 0 := by rw [tname, if_pos h0]
    clear h0
    have HV := Lib.hid hv
    clear hv hl
    go_enter Try.func15, Try.ntmps15
    go_wp2_with fail
    go_ret
    exact ⟨ret_int (by rw [HV.out]; rfl), rfl⟩

end Go.Proofs.Ytkjbmekpcjfenaa
