/- The character classes of blackfriday: isletter, isalnum, walked. No condition. -/
import Derived.Test.YtlndmebmcjngfaaGreatDoorBase
namespace Go.Proofs.YtlndmebmcjngfaaGreatDoor
open Go.ChangeShapes Go.WideShapes Go.ChangeAt Go.RowKit

/-- a letter, a letter or a digit, of ASCII -/
def lettI (n : Int) : Bool := decide (97 ≤ n ∧ n ≤ 122) || decide (65 ≤ n ∧ n ≤ 90)
def digI (n : Int) : Bool := decide (48 ≤ n ∧ n ≤ 57)
def hexI (n : Int) : Bool := digI n || decide (97 ≤ n ∧ n ≤ 102) || decide (65 ≤ n ∧ n ≤ 70)
def alnI (n : Int) : Bool := decide (48 ≤ n ∧ n ≤ 57) || lettI n

theorem isletter_any (n : Int) (w : World) :
    Calls Tryz.prog 93 #[.int .u8 n] w fun e w' => e = .returned (.bool (lettI n)) ∧ w = w' := by
  go_enter Tryz.func93, Tryz.ntmps93
  go_wp2
  all_goals go_ret
  all_goals refine ⟨ret_bool ?_, rfl⟩
  all_goals unfold lettI
  all_goals rw [Bool.eq_iff_iff]
  all_goals simp only [Bool.or_eq_true, decide_eq_true_eq, Bool.false_eq_true, true_iff, false_iff]
  all_goals omega

theorem isdigit_any (n : Int) (w : World) :
    Calls Tryz.prog 121 #[.int .u8 n] w fun e w' => e = .returned (.bool (digI n)) ∧ w = w' := by
  go_enter Tryz.func121, Tryz.ntmps121
  go_wp2
  all_goals go_ret
  all_goals refine ⟨ret_bool ?_, rfl⟩
  all_goals unfold digI
  all_goals rw [Bool.eq_iff_iff]
  all_goals simp only [decide_eq_true_eq, Bool.false_eq_true, false_iff]
  all_goals omega



theorem isalnum_any (n : Int) (w : World) :
    Calls Tryz.prog 71 #[.int .u8 n] w fun e w' => e = .returned (.bool (alnI n)) ∧ w = w' := by
  by_cases h : 48 ≤ n ∧ n ≤ 57
  · obtain ⟨h1, h2⟩ := h
    go_enter Tryz.func71, Tryz.ntmps71
    go_wp2_with fail
    go_ret
    exact ⟨ret_bool (by simp [alnI, h1, h2]), rfl⟩
  · have hv : alnI n = lettI n := by simp only [alnI, h, decide_false, Bool.false_or]
    have HV := Lib.hid hv
    clear hv
    by_cases h1 : 48 ≤ n
    · have h2 : ¬ n ≤ 57 := by omega
      go_enter Tryz.func71, Tryz.ntmps71
      go_wp2_with (go_at_call 93; refine (isletter_any _ _).mono ?_; rintro e w' ⟨rfl, rfl⟩)
      go_ret
      exact ⟨ret_bool HV.out.symm, rfl⟩
    · go_enter Tryz.func71, Tryz.ntmps71
      go_wp2_with (go_at_call 93; refine (isletter_any _ _).mono ?_; rintro e w' ⟨rfl, rfl⟩)
      go_ret
      exact ⟨ret_bool HV.out.symm, rfl⟩

theorem zzHex_any (n : Int) (w : World) :
    Calls Tryz.prog 124 #[.int .u8 n] w fun e w' => e = .returned (.bool (hexI n)) ∧ w = w' := by
  cases hd : digI n with
  | true =>
    go_enter Tryz.func124, Tryz.ntmps124
    go_wp2_with (go_at_call 121; refine (isdigit_any _ _).mono ?_; rintro e w' ⟨rfl, rfl⟩)
    go_ret
    exact ⟨ret_bool (by simp [hexI, hd]), rfl⟩
  | false =>
    go_enter Tryz.func124, Tryz.ntmps124
    go_wp2_with (go_at_call 121; refine (isdigit_any _ _).mono ?_; rintro e w' ⟨rfl, rfl⟩)
    all_goals go_ret
    all_goals refine ⟨ret_bool ?_, rfl⟩
    all_goals unfold hexI
    all_goals rw [hd, Bool.false_or, Bool.eq_iff_iff]
    all_goals simp only [Bool.or_eq_true, decide_eq_true_eq, Bool.false_eq_true, true_iff, false_iff]
    all_goals omega


end Go.Proofs.YtlndmebmcjngfaaGreatDoor
