/- The character classes of blackfriday: isletter, isalnum, walked. No condition. -/
import Derived.Test.YtnoaoehpmjljeaaBase
namespace Go.Proofs.Ytnoaoehpmjljeaa
open Go.ChangeShapes Go.WideShapes Go.ChangeAt Go.RowKit

/-- a letter, a letter or a digit, of ASCII -/
def lettI (n : Int) : Bool := decide (97 ≤ n ∧ n ≤ 122) || decide (65 ≤ n ∧ n ≤ 90)
def alnI (n : Int) : Bool := decide (48 ≤ n ∧ n ≤ 57) || lettI n

theorem isletter_any (n : Int) (w : World) :
    Calls Try.prog 34 #[.int .u8 n] w fun e w' => e = .returned (.bool (lettI n)) ∧ w = w' := by
  go_enter Try.func34, Try.ntmps34
  go_wp2
  all_goals go_ret
  all_goals refine ⟨ret_bool ?_, rfl⟩
  all_goals unfold lettI
  all_goals rw [Bool.eq_iff_iff]
  all_goals simp only [Bool.or_eq_true, decide_eq_true_eq, Bool.false_eq_true, true_iff, false_iff]
  all_goals omega

theorem isalnum_any (n : Int) (w : World) :
    Calls Try.prog 33 #[.int .u8 n] w fun e w' => e = .returned (.bool (alnI n)) ∧ w = w' := by
  by_cases h : 48 ≤ n ∧ n ≤ 57
  · obtain ⟨h1, h2⟩ := h
    go_enter Try.func33, Try.ntmps33
    go_wp2_with fail
    go_ret
    exact ⟨ret_bool (by simp [alnI, h1, h2]), rfl⟩
  · have hv : alnI n = lettI n := by simp only [alnI, h, decide_false, Bool.false_or]
    have HV := Lib.hid hv
    clear hv
    by_cases h1 : 48 ≤ n
    · have h2 : ¬ n ≤ 57 := by omega
      go_enter Try.func33, Try.ntmps33
      go_wp2_with (go_at_call 34; refine (isletter_any _ _).mono ?_; rintro e w' ⟨rfl, rfl⟩)
      go_ret
      exact ⟨ret_bool HV.out.symm, rfl⟩
    · go_enter Try.func33, Try.ntmps33
      go_wp2_with (go_at_call 34; refine (isletter_any _ _).mono ?_; rintro e w' ⟨rfl, rfl⟩)
      go_ret
      exact ⟨ret_bool HV.out.symm, rfl⟩

end Go.Proofs.Ytnoaoehpmjljeaa
