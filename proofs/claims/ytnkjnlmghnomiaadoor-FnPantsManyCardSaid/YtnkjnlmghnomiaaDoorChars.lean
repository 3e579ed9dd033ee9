/- The character classes of blackfriday: isletter, isalnum, walked. No condition. -/
import Derived.Test.YtnkjnlmghnomiaaDoorBase
namespace Go.Proofs.YtnkjnlmghnomiaaDoor
open Go.ChangeShapes Go.WideShapes Go.ChangeAt Go.RowKit

/-- a letter, a letter or a digit, of ASCII -/
def lettI (n : Int) : Bool := decide (97 ≤ n ∧ n ≤ 122) || decide (65 ≤ n ∧ n ≤ 90)
def digI (n : Int) : Bool := decide (48 ≤ n ∧ n ≤ 57)
def hexI (n : Int) : Bool := digI n || decide (97 ≤ n ∧ n ≤ 102) || decide (65 ≤ n ∧ n ≤ 70)
def alnI (n : Int) : Bool := decide (48 ≤ n ∧ n ≤ 57) || lettI n


theorem isdigit_any (n : Int) (w : World) :
    Calls Tryd.prog 56 #[.int .u8 n] w fun e w' => e = .returned (.bool (digI n)) ∧ w = w' := by
  go_enter Tryd.func56, Tryd.ntmps56
  go_wp2
  all_goals go_ret
  all_goals refine ⟨ret_bool ?_, rfl⟩
  all_goals unfold digI
  all_goals rw [Bool.eq_iff_iff]
  all_goals simp only [decide_eq_true_eq, Bool.false_eq_true, false_iff]
  all_goals omega






end Go.Proofs.YtnkjnlmghnomiaaDoor
