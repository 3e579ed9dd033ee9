/- The character classes of blackfriday: isletter, isalnum, walked. No condition. -/
import Derived.Test.YtcpkkmpckdcbjaaDoorBase
namespace Go.Proofs.YtcpkkmpckdcbjaaDoor
open Go.ChangeShapes Go.WideShapes Go.ChangeAt Go.RowKit

/-- a letter, a letter or a digit, of ASCII -/
def lettI (n : Int) : Bool := decide (97 ≤ n ∧ n ≤ 122) || decide (65 ≤ n ∧ n ≤ 90)
def digI (n : Int) : Bool := decide (48 ≤ n ∧ n ≤ 57)
def hexI (n : Int) : Bool := digI n || decide (97 ≤ n ∧ n ≤ 102) || decide (65 ≤ n ∧ n ≤ 70)
def alnI (n : Int) : Bool := decide (48 ≤ n ∧ n ≤ 57) || lettI n








end Go.Proofs.YtcpkkmpckdcbjaaDoor
