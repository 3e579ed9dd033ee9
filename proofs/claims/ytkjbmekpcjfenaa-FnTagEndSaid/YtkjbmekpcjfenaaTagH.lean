/- Tags: spec.BeginsFolded and blackfriday.zzCommentEnd walked. Condition: lengths are bounded. -/
import Derived.Test.YtkjbmekpcjfenaaTagG
namespace Go.Proofs.Ytkjbmekpcjfenaa
open Go.ChangeShapes Go.WideShapes Go.ChangeAt Go.RowKit

/-- does a text begin with another one, in small letters -/
def folded (l k : List UInt8) : Bool := decide (k.length ≤ l.length ∧ ∀ i, i < k.length → lowN (bat l i) = bat k i)

theorem bat_str (s : ByteArray) (k : Nat) (h : k < s.size) : bat s.toList k = ((s[k].toNat : Nat) : Int) := by
  have e : s.toList = s.data.toList := Lib.toList_data s
  rw [e]
  unfold bat
  have h' : k < s.data.toList.length := h
  simp only [List.getD, List.getElem?_eq_getElem h', Option.getD_some]
  rfl

set_option maxHeartbeats 1000000 in
theorem beginsFolded_any (p : Option Addr) (n c : Nat) (l : List UInt8) (s : ByteArray) (w : World) (h : Bs w p n l) (hn : n ≤ 1000000) (h0 : 0 < s.size) (hs : s.size ≤ 1000) :
    Calls Try.prog 30 #[.slice p n c, .string s] w fun e w' => e = .returned (.bool (folded l s.toList)) ∧ w = w' := by
  have HL := Lib.hid h.len
  have hsl : s.toList.length = s.size := by rw [Lib.toList_data]; rfl
  have HS := Lib.hid hsl
  clear hsl
  by_cases hle : s.size ≤ n
  · obtain ⟨b, o, rfl, hlt, hc⟩ := h.cells (by omega)
    go_enter Try.func30, Try.ntmps30
    go_wp2_with fail
    go_loop [14] (fun t => ∃ k : Nat, k ≤ s.size ∧ t = .int .i64 k ∧ ∀ i, i < k → lowN (bat l i) = bat s.toList i) (fun t => s.size - (intOf t).toNat)
    case atStart => exact ⟨0, Nat.zero_le _, rfl, fun i hi => absurd hi (Nat.not_lt_zero i)⟩
    case round =>
      obtain ⟨k, hk, rfl, hp⟩ := hrel
      have HP := Lib.hid hp
      clear hp
      by_cases hlt : k < s.size
      · have c1 := hc k (by omega)
        have hb := bat_str s k hlt
        have b0 := bat_nonneg l k
        have b1 := bat_lt l k
        have HB := Lib.hid hb
        clear hb
        by_cases hup : 65 ≤ bat l k ∧ bat l k ≤ 90
        · have hlow : lowN (bat l k) = bat l k + 32 := by rw [lowN, if_pos hup]
          have HLow := Lib.hid hlow
          clear hlow
          obtain ⟨u1, u2⟩ := hup
          by_cases heq : bat l k + 32 = ((s[k].toNat : Nat) : Int)
          · have hq : (bat l k + 32 != ((s[k].toNat : Nat) : Int)) = false := by simp [heq]
            have HQ : Hid (lowN (bat l k) = bat s.toList k) := Lib.hid (by rw [HLow.out, HB.out]; exact heq)
            clear heq
            go_wp2_with fail
            go_round
            case rel => exact ⟨k + 1, by omega, by go_num, fun i hi => by
              by_cases e : i = k
              · rw [e]; exact HQ.out
              · exact HP.out i (by omega)⟩
            case measure => simp [intOf]; omega
          · have hq : (bat l k + 32 != ((s[k].toNat : Nat) : Int)) = true := by simp [heq]
            have HQ : Hid (¬ lowN (bat l k) = bat s.toList k) := Lib.hid (by rw [HLow.out, HB.out]; exact heq)
            clear heq
            go_wp2_with fail
            go_ret
            exact ⟨ret_bool (by rw [folded]; exact (decide_eq_false (fun e => HQ.out (e.2 k (by rw [HS.out]; exact hlt)))).symm), rfl⟩
        · have hlow : lowN (bat l k) = bat l k := by rw [lowN, if_neg hup]
          have HLow := Lib.hid hlow
          clear hlow
          by_cases heq : bat l k = ((s[k].toNat : Nat) : Int)
          · have hq : (bat l k != ((s[k].toNat : Nat) : Int)) = false := by simp [heq]
            have HQ : Hid (lowN (bat l k) = bat s.toList k) := Lib.hid (by rw [HLow.out, HB.out]; exact heq)
            clear heq
            by_cases u1 : 65 ≤ bat l k
            · have u2 : ¬ bat l k ≤ 90 := by omega
              clear hup
              go_wp2_with fail
              go_round
              case rel => exact ⟨k + 1, by omega, by go_num, fun i hi => by
                by_cases e : i = k
                · rw [e]; exact HQ.out
                · exact HP.out i (by omega)⟩
              case measure => simp [intOf]; omega
            · clear hup
              go_wp2_with fail
              go_round
              case rel => exact ⟨k + 1, by omega, by go_num, fun i hi => by
                by_cases e : i = k
                · rw [e]; exact HQ.out
                · exact HP.out i (by omega)⟩
              case measure => simp [intOf]; omega
          · have hq : (bat l k != ((s[k].toNat : Nat) : Int)) = true := by simp [heq]
            have HQ : Hid (¬ lowN (bat l k) = bat s.toList k) := Lib.hid (by rw [HLow.out, HB.out]; exact heq)
            clear heq
            by_cases u1 : 65 ≤ bat l k
            · have u2 : ¬ bat l k ≤ 90 := by omega
              clear hup
              go_wp2_with fail
              go_ret
              exact ⟨ret_bool (by rw [folded]; exact (decide_eq_false (fun e => HQ.out (e.2 k (by rw [HS.out]; exact hlt)))).symm), rfl⟩
            · clear hup
              go_wp2_with fail
              go_ret
              exact ⟨ret_bool (by rw [folded]; exact (decide_eq_false (fun e => HQ.out (e.2 k (by rw [HS.out]; exact hlt)))).symm), rfl⟩
      · go_wp2_with fail
        go_ret
        refine ⟨ret_bool ?_, rfl⟩
        rw [folded]
        refine (decide_eq_true ⟨by rw [HS.out, HL.out]; exact hle, fun i hi => HP.out i ?_⟩).symm
        rw [HS.out] at hi
        omega
  · go_enter Try.func30, Try.ntmps30
    go_wp2_with fail
    go_ret
    exact ⟨ret_bool (by rw [folded]; exact (decide_eq_false (fun e => by have := e.1; rw [HS.out, HL.out] at this; omega)).symm), rfl⟩

end Go.Proofs.Ytkjbmekpcjfenaa
