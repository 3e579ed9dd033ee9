/- bytes.Equal and bytes.HasPrefix, in the vocabulary of this seat. No condition but the lengths' bounds. -/
import Derived.Test.YtnkjnlmghnomiaaDoorConv
namespace Go.Proofs.YtnkjnlmghnomiaaDoor
open Go.ChangeShapes Go.WideShapes Go.ChangeAt Go.RowKit

set_option maxHeartbeats 400000 in
theorem equal_any (p q : Option Addr) (n c m d : Nat) (l k : List UInt8) (w : World) (h1 : Bs w p n l) (h2 : Bs w q m k) :
    Calls Tryd.prog 65 #[.slice p n c, .slice q m d] w fun e w' => e = .returned (.bool (l == k)) ∧ w = w' := by
  have e1 := h1.convert c
  have e2 := h2.convert d
  go_enter Tryd.func65, Tryd.ntmps65
  go_wp2
  go_ret
  exact ⟨ret_bool (by rw [str_toList, str_toList]), rfl⟩

set_option maxHeartbeats 400000 in
theorem hasPrefix_any (p q : Option Addr) (n c m d : Nat) (l k : List UInt8) (w : World) (h1 : Bs w p n l) (h2 : Bs w q m k) (hc : n ≤ c) (_hcm : c ≤ maxLen) (hm : 0 < m) :
    Calls Tryd.prog 59 #[.slice p n c, .slice q m d] w fun e w' => e = .returned (.bool (begins l k)) ∧ w = w' := by
  unfold maxLen at _hcm
  by_cases hle : m ≤ n
  · obtain ⟨b, o, rfl, hlt, hcell⟩ := h1.cells (by omega)
    have h3 := h1.take m hle
    clear hcell
    have HL := Lib.hid h1.len
    have HK := Lib.hid h2.len
    go_enter Tryd.func59, Tryd.ntmps59
    go_wp2_with fail
    refine (equal_any _ _ m c m d (l.take m) k _ h3 h2).mono ?_
    rintro e w' ⟨rfl, rfl⟩
    go_wp2_with fail
    go_ret
    refine ⟨ret_bool ?_, rfl⟩
    rw [begins_of_le (by rw [HL.out, HK.out]; exact hle), HK.out]
  · have HL := Lib.hid h1.len
    have HK := Lib.hid h2.len
    go_enter Tryd.func59, Tryd.ntmps59
    go_wp2_with fail
    go_ret
    refine ⟨ret_bool ?_, rfl⟩
    rw [begins_short (by rw [HL.out, HK.out]; omega)]

end Go.Proofs.YtnkjnlmghnomiaaDoor
