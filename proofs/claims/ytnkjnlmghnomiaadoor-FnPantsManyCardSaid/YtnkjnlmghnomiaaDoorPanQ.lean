/- Smart punctuation: the small functions of the spec walked: endings, hyphens, signs, entities, flags, what hyphens become. Condition: numbers are bounded. -/
import Derived.Test.YtnkjnlmghnomiaaDoorPanE
import Derived.Test.YtnkjnlmghnomiaaDoorPanB
import Derived.Laws.BitsAllLaws
namespace Go.Proofs.YtnkjnlmghnomiaaDoor
open Go.ChangeShapes Go.WideShapes Go.ChangeAt Go.RowKit

theorem str_data (s : ByteArray) : str s.data.toList = s := by
  apply ByteArray.ext
  apply Array.toList_inj.1
  rfl
theorem str_size (l : List UInt8) : (str l).size = l.length := by
  unfold str
  simp [ByteArray.size]
theorem str_app (a b : List UInt8) : str a ++ str b = str (a ++ b) := by
  apply ByteArray.ext
  apply Array.toList_inj.1
  rw [ByteArray.data_append, Array.toList_append]
  rfl
theorem byte_bat (s : ByteArray) (k : Nat) (h : k < s.size) : ((s[k].toNat : Nat) : Int) = bat s.data.toList k := by
  unfold bat
  have h2 : k < s.data.toList.length := by rw [← Lib.size_eq]; exact h
  have e : s[k] = s.data.toList[k] := rfl
  rw [e]
  simp only [List.getD, List.getElem?_eq_getElem h2, Option.getD_some]

theorem pantEnd_any (x : Int) (w : World) (h0 : 0 ≤ x) (h1 : x ≤ 6) :
    Calls Tryd.prog 28 #[.int .i64 x] w fun e w' => e = .returned (.string (str (endL x.toNat))) ∧ w = w' := by
  have h : x = 0 ∨ x = 1 ∨ x = 2 ∨ x = 3 ∨ x = 4 ∨ x = 5 ∨ x = 6 := by omega
  clear h0 h1
  rcases h with rfl | rfl | rfl | rfl | rfl | rfl | rfl
  all_goals
    go_enter Tryd.func28, Tryd.ntmps28
    go_wp2_with fail
    go_ret
    exact ⟨rfl, rfl⟩

theorem hyphens_any (x : Int) (w : World) (h0 : 0 ≤ x) (h1 : x ≤ 6) :
    Calls Tryd.prog 29 #[.int .i64 x] w fun e w' => e = .returned (.string (str (hyL x.toNat))) ∧ w = w' := by
  have h : x = 0 ∨ x = 1 ∨ x = 2 ∨ x = 3 ∨ x = 4 ∨ x = 5 ∨ x = 6 := by omega
  clear h0 h1
  rcases h with rfl | rfl | rfl | rfl | rfl | rfl | rfl
  all_goals
    go_enter Tryd.func29, Tryd.ntmps29
    go_wp2_with fail
    go_ret
    exact ⟨rfl, rfl⟩

theorem pantSign_any (x : Int) (w : World) (h0 : 0 ≤ x) (h1 : x ≤ 6) :
    Calls Tryd.prog 30 #[.int .i64 x] w fun e w' => e = .returned (.tuple #[.string (str (signL x.toNat)), .string (str (signM x.toNat))]) ∧ w = w' := by
  have h : x = 0 ∨ x = 1 ∨ x = 2 ∨ x = 3 ∨ x = 4 ∨ x = 5 ∨ x = 6 := by omega
  clear h0 h1
  rcases h with rfl | rfl | rfl | rfl | rfl | rfl | rfl
  all_goals
    go_enter Tryd.func30, Tryd.ntmps30
    go_wp2_with fail
    refine bodyPost_ret (v := .tuple _) (by simp [results, Tryd.results30, go_sem]; rfl) rfl ?_
    exact ⟨rfl, rfl⟩

/-- the entities of documents; the fourth is another one here -/
def ent0L (v : Nat) : List UInt8 := if v = 3 then quotL else entL v
theorem inEntity0_any (x : Int) (w : World) (h0 : 0 ≤ x) (h1 : x ≤ 6) :
    Calls Tryd.prog 32 #[.int .i64 x] w fun e w' => ∃ s, e = .returned (.tuple #[.string (str (ent0L x.toNat)), .string s]) ∧ w = w' := by
  have h : x = 0 ∨ x = 1 ∨ x = 2 ∨ x = 3 ∨ x = 4 ∨ x = 5 ∨ x = 6 := by omega
  clear h0 h1
  rcases h with rfl | rfl | rfl | rfl | rfl | rfl | rfl
  all_goals
    go_enter Tryd.func32, Tryd.ntmps32
    go_wp2_with fail
    refine bodyPost_ret (v := .tuple _) (by simp [results, Tryd.results32, go_sem]; rfl) rfl ?_
    exact ⟨_, rfl, rfl⟩

/-- does a set of flags hold one -/
def hasB (flags one : Int) : Bool := flags / one % 2 == 1
theorem has_any (flags one : Int) (w : World) (h0 : 0 ≤ flags) (h1 : flags ≤ 1000000) (h : one = 8192 ∨ one = 16384 ∨ one = 32768 ∨ one = 65536 ∨ one = 131072) :
    Calls Tryd.prog 33 #[.int .i64 flags, .int .i64 one] w fun e w' => e = .returned (.bool (hasB flags one)) ∧ w = w' := by
  rcases h with rfl | rfl | rfl | rfl | rfl
  all_goals
    go_enter Tryd.func33, Tryd.ntmps33
    go_wp2_with fail
    go_ret
    exact ⟨rfl, rfl⟩
theorem and_8192 (flags : Int) (h0 : 0 ≤ flags) (h1 : flags ≤ 1000000) : (bits .and .i64 flags 8192 != 0) = hasB flags 8192 := by
  obtain ⟨n, rfl⟩ := Int.eq_ofNat_of_zero_le h0
  have e : bits .and .i64 (n : Int) 8192 = ((n / 8192 % 2 * 8192 : Nat) : Int) := by
    have e1 : (BitVec.ofInt 64 (8192 : Int)).toNat = 2 ^ 13 := by decide
    show IntKind.i64.wrap ((BitVec.ofInt 64 (n : Int) &&& BitVec.ofInt 64 8192).toNat : Int) = _
    rw [BitVec.toNat_and, ofInt_u64 n (by omega), e1, nat_bit 13 n, IntKind.wrap_i64]
    omega
  rw [e]
  unfold hasB
  have e2 : ((n : Int) / 8192 % 2) = ((n / 8192 % 2 : Nat) : Int) := by omega
  rw [e2]
  rcases Nat.mod_two_eq_zero_or_one (n / 8192) with h | h <;> rw [h] <;> rfl
theorem and_16384 (flags : Int) (h0 : 0 ≤ flags) (h1 : flags ≤ 1000000) : (bits .and .i64 flags 16384 != 0) = hasB flags 16384 := by
  obtain ⟨n, rfl⟩ := Int.eq_ofNat_of_zero_le h0
  have e : bits .and .i64 (n : Int) 16384 = ((n / 16384 % 2 * 16384 : Nat) : Int) := by
    have e1 : (BitVec.ofInt 64 (16384 : Int)).toNat = 2 ^ 14 := by decide
    show IntKind.i64.wrap ((BitVec.ofInt 64 (n : Int) &&& BitVec.ofInt 64 16384).toNat : Int) = _
    rw [BitVec.toNat_and, ofInt_u64 n (by omega), e1, nat_bit 14 n, IntKind.wrap_i64]
    omega
  rw [e]
  unfold hasB
  have e2 : ((n : Int) / 16384 % 2) = ((n / 16384 % 2 : Nat) : Int) := by omega
  rw [e2]
  rcases Nat.mod_two_eq_zero_or_one (n / 16384) with h | h <;> rw [h] <;> rfl
theorem and_32768 (flags : Int) (h0 : 0 ≤ flags) (h1 : flags ≤ 1000000) : (bits .and .i64 flags 32768 != 0) = hasB flags 32768 := by
  obtain ⟨n, rfl⟩ := Int.eq_ofNat_of_zero_le h0
  have e : bits .and .i64 (n : Int) 32768 = ((n / 32768 % 2 * 32768 : Nat) : Int) := by
    have e1 : (BitVec.ofInt 64 (32768 : Int)).toNat = 2 ^ 15 := by decide
    show IntKind.i64.wrap ((BitVec.ofInt 64 (n : Int) &&& BitVec.ofInt 64 32768).toNat : Int) = _
    rw [BitVec.toNat_and, ofInt_u64 n (by omega), e1, nat_bit 15 n, IntKind.wrap_i64]
    omega
  rw [e]
  unfold hasB
  have e2 : ((n : Int) / 32768 % 2) = ((n / 32768 % 2 : Nat) : Int) := by omega
  rw [e2]
  rcases Nat.mod_two_eq_zero_or_one (n / 32768) with h | h <;> rw [h] <;> rfl
theorem and_65536 (flags : Int) (h0 : 0 ≤ flags) (h1 : flags ≤ 1000000) : (bits .and .i64 flags 65536 != 0) = hasB flags 65536 := by
  obtain ⟨n, rfl⟩ := Int.eq_ofNat_of_zero_le h0
  have e : bits .and .i64 (n : Int) 65536 = ((n / 65536 % 2 * 65536 : Nat) : Int) := by
    have e1 : (BitVec.ofInt 64 (65536 : Int)).toNat = 2 ^ 16 := by decide
    show IntKind.i64.wrap ((BitVec.ofInt 64 (n : Int) &&& BitVec.ofInt 64 65536).toNat : Int) = _
    rw [BitVec.toNat_and, ofInt_u64 n (by omega), e1, nat_bit 16 n, IntKind.wrap_i64]
    omega
  rw [e]
  unfold hasB
  have e2 : ((n : Int) / 65536 % 2) = ((n / 65536 % 2 : Nat) : Int) := by omega
  rw [e2]
  rcases Nat.mod_two_eq_zero_or_one (n / 65536) with h | h <;> rw [h] <;> rfl
theorem and_131072 (flags : Int) (h0 : 0 ≤ flags) (h1 : flags ≤ 1000000) : (bits .and .i64 flags 131072 != 0) = hasB flags 131072 := by
  obtain ⟨n, rfl⟩ := Int.eq_ofNat_of_zero_le h0
  have e : bits .and .i64 (n : Int) 131072 = ((n / 131072 % 2 * 131072 : Nat) : Int) := by
    have e1 : (BitVec.ofInt 64 (131072 : Int)).toNat = 2 ^ 17 := by decide
    show IntKind.i64.wrap ((BitVec.ofInt 64 (n : Int) &&& BitVec.ofInt 64 131072).toNat : Int) = _
    rw [BitVec.toNat_and, ofInt_u64 n (by omega), e1, nat_bit 17 n, IntKind.wrap_i64]
    omega
  rw [e]
  unfold hasB
  have e2 : ((n : Int) / 131072 % 2) = ((n / 131072 % 2 : Nat) : Int) := by omega
  rw [e2]
  rcases Nat.mod_two_eq_zero_or_one (n / 131072) with h | h <;> rw [h] <;> rfl
/-- the flags that matter, by division -/
theorem cfgOf_has (flags : Int) (h0 : 0 ≤ flags) (h1 : flags ≤ 1000000) : cfgOf flags = ⟨hasB flags 65536, hasB flags 131072, hasB flags 16384, hasB flags 32768, hasB flags 8192⟩ := by
  unfold cfgOf
  rw [and_65536 flags h0 h1, and_131072 flags h0 h1, and_16384 flags h0 h1, and_32768 flags h0 h1, and_8192 flags h0 h1]

end Go.Proofs.YtnkjnlmghnomiaaDoor
