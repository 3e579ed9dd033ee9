/- The character classes of blackfriday: isletter, isalnum, walked. No condition. -/
import Derived.Test.YtkjbmekpcjfenaaBase
namespace Go.Proofs.Ytkjbmekpcjfenaa
open Go.ChangeShapes Go.WideShapes Go.ChangeAt Go.RowKit

/-- a letter, a letter or a digit, of ASCII -/
def lettI (n : Int) : Bool := decide (97 ≤ n ∧ n ≤ 122) || decide (65 ≤ n ∧ n ≤ 90)
def digI (n : Int) : Bool := decide (48 ≤ n ∧ n ≤ 57)
def hexI (n : Int) : Bool := digI n || decide (97 ≤ n ∧ n ≤ 102) || decide (65 ≤ n ∧ n ≤ 70)
def alnI (n : Int) : Bool := decide (48 ≤ n ∧ n ≤ 57) || lettI n

theorem isletter_any (n : Int) (w : World) :
    Calls Try.prog 42 #[.int .u8 n] w fun e w' => e = .returned (.bool (lettI n)) ∧ w = w' := by
  go_enter Try.func42, Try.ntmps42
  go_wp2
  all_goals go_ret
  all_goals refine ⟨ret_bool ?_, rfl⟩
  all_goals unfold lettI
  all_goals rw [Bool.eq_iff_iff]
  all_goals simp only [Bool.or_eq_true, decide_eq_true_eq, Bool.false_eq_true, true_iff, false_iff]
  all_goals omega

theorem isdigit_any (n : Int) (w : World) :
    Calls Try.prog 43 #[.int .u8 n] w fun e w' => e = .returned (.bool (digI n)) ∧ w = w' := by
  go_enter Try.func43, Try.ntmps43
  go_wp2
  all_goals go_ret
  all_goals refine ⟨ret_bool ?_, rfl⟩
  all_goals unfold digI
  all_goals rw [Bool.eq_iff_iff]
  all_goals simp only [decide_eq_true_eq, Bool.false_eq_true, false_iff]
  all_goals omega

theorem inLetter_any (n : Int) (w : World) :
    Calls Try.prog 24 #[.int .u8 n] w fun e w' => e = .returned (.bool (lettI n)) ∧ w = w' := by
  go_enter Try.func24, Try.ntmps24
  go_wp2
  all_goals go_ret
  all_goals refine ⟨ret_bool ?_, rfl⟩
  all_goals unfold lettI
  all_goals rw [Bool.eq_iff_iff]
  all_goals simp only [Bool.or_eq_true, decide_eq_true_eq, Bool.false_eq_true, true_iff, false_iff]
  all_goals omega

theorem inDigit_any (n : Int) (w : World) :
    Calls Try.prog 25 #[.int .u8 n] w fun e w' => e = .returned (.bool (digI n)) ∧ w = w' := by
  go_enter Try.func25, Try.ntmps25
  go_wp2
  all_goals go_ret
  all_goals refine ⟨ret_bool ?_, rfl⟩
  all_goals unfold digI
  all_goals rw [Bool.eq_iff_iff]
  all_goals simp only [decide_eq_true_eq, Bool.false_eq_true, false_iff]
  all_goals omega


theorem zzHex_any (n : Int) (w : World) :
    Calls Try.prog 50 #[.int .u8 n] w fun e w' => e = .returned (.bool (hexI n)) ∧ w = w' := by
  cases hd : digI n with
  | true =>
    go_enter Try.func50, Try.ntmps50
    go_wp2_with (go_at_call 43; refine (isdigit_any _ _).mono ?_; rintro e w' ⟨rfl, rfl⟩)
    go_ret
    exact ⟨ret_bool (by simp [hexI, hd]), rfl⟩
  | false =>
    go_enter Try.func50, Try.ntmps50
    go_wp2_with (go_at_call 43; refine (isdigit_any _ _).mono ?_; rintro e w' ⟨rfl, rfl⟩)
    all_goals go_ret
    all_goals refine ⟨ret_bool ?_, rfl⟩
    all_goals unfold hexI
    all_goals rw [hd, Bool.false_or, Bool.eq_iff_iff]
    all_goals simp only [Bool.or_eq_true, decide_eq_true_eq, Bool.false_eq_true, true_iff, false_iff]
    all_goals omega

theorem inHex_any (n : Int) (w : World) :
    Calls Try.prog 26 #[.int .u8 n] w fun e w' => e = .returned (.bool (hexI n)) ∧ w = w' := by
  cases hd : digI n with
  | true =>
    go_enter Try.func26, Try.ntmps26
    go_wp2_with (go_at_call 25; refine (inDigit_any _ _).mono ?_; rintro e w' ⟨rfl, rfl⟩)
    go_ret
    exact ⟨ret_bool (by simp [hexI, hd]), rfl⟩
  | false =>
    go_enter Try.func26, Try.ntmps26
    go_wp2_with (go_at_call 25; refine (inDigit_any _ _).mono ?_; rintro e w' ⟨rfl, rfl⟩)
    all_goals go_ret
    all_goals refine ⟨ret_bool ?_, rfl⟩
    all_goals unfold hexI
    all_goals rw [hd, Bool.false_or, Bool.eq_iff_iff]
    all_goals simp only [Bool.or_eq_true, decide_eq_true_eq, Bool.false_eq_true, true_iff, false_iff]
    all_goals omega

end Go.Proofs.Ytkjbmekpcjfenaa
