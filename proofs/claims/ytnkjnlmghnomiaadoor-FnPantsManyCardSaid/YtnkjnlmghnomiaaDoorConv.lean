/- A slice of bytes as a string, its windows, and whether it begins with a text. No program in sight but its types. -/
import Derived.Test.YtnkjnlmghnomiaaDoorOwn
namespace Go.Proofs.YtnkjnlmghnomiaaDoor
open Go.ChangeShapes Go.WideShapes Go.ChangeAt Go.RowKit

/-- the bytes as a string -/
def str (l : List UInt8) : ByteArray := ⟨l.toArray⟩

theorem str_nums (l : List UInt8) : strOfNums (l.map fun c => (c.toNat : Int)) = str l := by
  unfold str
  apply ByteArray.ext
  apply Array.toList_inj.1
  have h := Lib.strOfNums_toList (l.map fun c => (c.toNat : Int))
  rw [← Lib.toList_data]
  rw [h]
  rw [Lib.bytesOf, List.map_map]
  conv => rhs; rw [← List.map_id l]
  refine List.map_congr_left fun c _ => ?_
  simp

theorem str_toList (l : List UInt8) : (str l).toList = l := by
  rw [Lib.toList_data]
  rfl

theorem Bs.bytesIn {w : World} {p : Option Addr} {n : Nat} {l : List UInt8} (h : Bs w p n l) : Lib.BytesIn w p n (l.map fun c => (c.toNat : Int)) := by
  intro hn
  obtain ⟨b, o, hp, _, hc⟩ := h.cells hn
  refine ⟨b, o, hp, fun i hi => ?_⟩
  rw [hc i hi]
  have hl := h.len
  have : i < l.length := by omega
  simp [bat, this]

theorem Bs.convert {w : World} {p : Option Addr} {n : Nat} {l : List UInt8} (h : Bs w p n l) (c : Nat) : (Go.convert 27 9 (.slice p n c)).run Tryd.prog w = .ok (.string (str l)) w := by
  rw [← str_nums]
  exact h.bytesIn.convert (by simp [h.len]) c _ _ _ Tryd.underlying27 Tryd.underlying5 Tryd.underlying9

/-- the first m bytes of a slice -/
theorem Bs.take {w : World} {p : Option Addr} {n : Nat} {l : List UInt8} (h : Bs w p n l) (m : Nat) (hm : m ≤ n) : Bs w p m (l.take m) := by
  refine ⟨by rw [List.length_take, h.len]; omega, fun h0 => ?_⟩
  obtain ⟨b, o, hp, hlt, hc⟩ := h.cells (by omega)
  refine ⟨b, o, hp, hlt, fun i hi => ?_⟩
  rw [hc i (by omega)]
  simp [bat, hi]

/-- does a text begin with another -/
def begins (l k : List UInt8) : Bool := l.take k.length == k && decide (k.length ≤ l.length)

theorem begins_of_le {l k : List UInt8} (h : k.length ≤ l.length) : begins l k = (l.take k.length == k) := by
  simp [begins, h]
theorem begins_short {l k : List UInt8} (h : l.length < k.length) : begins l k = false := by
  simp [begins]
  omega

end Go.Proofs.YtnkjnlmghnomiaaDoor
