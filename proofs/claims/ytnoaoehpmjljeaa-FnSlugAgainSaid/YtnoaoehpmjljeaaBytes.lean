/- bytes.Equal and bytes.HasPrefix, and the conversion of a slice of bytes to a string, in the vocabulary of this seat. No condition but the lengths' bounds. -/
import Derived.Test.YtnoaoehpmjljeaaOwn
namespace Go.Proofs.Ytnoaoehpmjljeaa
open Go.ChangeShapes Go.WideShapes Go.ChangeAt Go.RowKit

/-- the bytes as a string -/
def str (l : List UInt8) : ByteArray := ⟨l.toArray⟩

theorem str_nums (l : List UInt8) : strOfNums (l.map fun c => (c.toNat : Int)) = str l := by
  unfold str
  apply ByteArray.ext
  apply Array.toList_inj.1
  have h := Lib.strOfNums_toList (l.map fun c => (c.toNat : Int))
  rw [← Lib.toList_data]
  rw [h]
  rw [Lib.bytesOf, List.map_map]
  conv => rhs; rw [← List.map_id l]
  refine List.map_congr_left fun c _ => ?_
  simp

theorem str_toList (l : List UInt8) : (str l).toList = l := by
  rw [Lib.toList_data]
  rfl

theorem Bs.bytesIn {w : World} {p : Option Addr} {n : Nat} {l : List UInt8} (h : Bs w p n l) : Lib.BytesIn w p n (l.map fun c => (c.toNat : Int)) := by
  intro hn
  obtain ⟨b, o, hp, _, hc⟩ := h.cells hn
  refine ⟨b, o, hp, fun i hi => ?_⟩
  rw [hc i hi]
  have hl := h.len
  have : i < l.length := by omega
  simp [bat, this]

theorem Bs.convert {w : World} {p : Option Addr} {n : Nat} {l : List UInt8} (h : Bs w p n l) (c : Nat) : (Go.convert 22 9 (.slice p n c)).run Try.prog w = .ok (.string (str l)) w := by
  rw [← str_nums]
  exact h.bytesIn.convert (by simp [h.len]) c _ _ _ Try.underlying22 Try.underlying5 Try.underlying9

set_option maxHeartbeats 400000 in
theorem equal_any (p q : Option Addr) (n c m d : Nat) (l k : List UInt8) (w : World) (h1 : Bs w p n l) (h2 : Bs w q m k) :
    Calls Try.prog 19 #[.slice p n c, .slice q m d] w fun e w' => e = .returned (.bool (l == k)) ∧ w = w' := by
  have e1 := h1.convert c
  have e2 := h2.convert d
  go_enter Try.func19, Try.ntmps19
  go_wp2
  go_ret
  exact ⟨ret_bool (by rw [str_toList, str_toList]), rfl⟩

/-- the first m bytes of a slice -/
theorem Bs.take {w : World} {p : Option Addr} {n : Nat} {l : List UInt8} (h : Bs w p n l) (m : Nat) (hm : m ≤ n) : Bs w p m (l.take m) := by
  refine ⟨by rw [List.length_take, h.len]; omega, fun h0 => ?_⟩
  obtain ⟨b, o, hp, hlt, hc⟩ := h.cells (by omega)
  refine ⟨b, o, hp, hlt, fun i hi => ?_⟩
  rw [hc i (by omega)]
  simp [bat, hi]

/-- does a text begin with another -/
def begins (l k : List UInt8) : Bool := l.take k.length == k && decide (k.length ≤ l.length)

theorem begins_of_le {l k : List UInt8} (h : k.length ≤ l.length) : begins l k = (l.take k.length == k) := by
  simp [begins, h]
theorem begins_short {l k : List UInt8} (h : l.length < k.length) : begins l k = false := by
  simp [begins]
  omega

set_option maxHeartbeats 400000 in
theorem hasPrefix_any (p q : Option Addr) (n c m d : Nat) (l k : List UInt8) (w : World) (h1 : Bs w p n l) (h2 : Bs w q m k) (hc : n ≤ c) (_hcm : c ≤ maxLen) (hm : 0 < m) :
    Calls Try.prog 32 #[.slice p n c, .slice q m d] w fun e w' => e = .returned (.bool (begins l k)) ∧ w = w' := by
  unfold maxLen at _hcm
  by_cases hle : m ≤ n
  · obtain ⟨b, o, rfl, hlt, hcell⟩ := h1.cells (by omega)
    have h3 := h1.take m hle
    clear hcell
    have HL := Lib.hid h1.len
    have HK := Lib.hid h2.len
    go_enter Try.func32, Try.ntmps32
    go_wp2_with fail
    refine (equal_any _ _ m c m d (l.take m) k _ h3 h2).mono ?_
    rintro e w' ⟨rfl, rfl⟩
    go_wp2_with fail
    go_ret
    refine ⟨ret_bool ?_, rfl⟩
    rw [begins_of_le (by rw [HL.out, HK.out]; exact hle), HK.out]
  · have HL := Lib.hid h1.len
    have HK := Lib.hid h2.len
    go_enter Try.func32, Try.ntmps32
    go_wp2_with fail
    go_ret
    refine ⟨ret_bool ?_, rfl⟩
    rw [begins_short (by rw [HL.out, HK.out]; omega)]

end Go.Proofs.Ytnoaoehpmjljeaa
