/- Fences: the small functions walked: classes of bytes, spec.lineEnd, spec.blanksAhead, skipChar. Condition: lengths are bounded. -/
import Derived.Test.YthddhejbkdenkaaGreatDoorFenA
namespace Go.Proofs.YthddhejbkdenkaaGreatDoor
open Go.ChangeShapes Go.WideShapes Go.ChangeAt Go.RowKit


theorem vert_any (n : Int) (w : World) : Calls Tryz.prog 85 #[.int .u8 n] w fun e w' => e = .returned (.bool (vertI n)) ∧ w = w' := by
  go_enter Tryz.func85, Tryz.ntmps85
  go_wp2
  all_goals go_ret
  all_goals (refine ⟨ret_bool ?_, rfl⟩; unfold vertI; simp_all)

theorem lineEnd_any (p : Option Addr) (n c : Nat) (l : List UInt8) (w : World) (h : Bs w p n l) (hn : n ≤ 2147483647) :
    Calls Tryz.prog 30 #[.slice p n c] w fun e w' => e = .returned (.int .i64 (run (neI 10) l 0)) ∧ w = w' := by
  have HL := Lib.hid h.len
  go_enter Tryz.func30, Tryz.ntmps30
  go_wp2_with fail
  go_loop [7] (fun t => ∃ k : Nat, k ≤ n ∧ t = .int .i64 k ∧ run (neI 10) l 0 = run (neI 10) l k) (fun t => n - (intOf t).toNat)
  case atStart => exact ⟨0, Nat.zero_le _, rfl, rfl⟩
  case round =>
    obtain ⟨k, hk, rfl, hr⟩ := hrel
    have HR := Lib.hid hr
    clear hr
    by_cases hlt : k < n
    · obtain ⟨b, o, rfl, _, hc⟩ := h.cells (by omega)
      have ck := hc k hlt
      clear hc
      by_cases h10 : bat l k = 10
      · have HV := Lib.hid (show neI 10 (bat l k) = false by simp [neI, h10])
        rw [h10] at ck
        clear h10
        go_wp2_with fail
        go_ret
        exact ⟨ret_int (by rw [HR.out, run_stop HV.out]), rfl⟩
      · have HV := Lib.hid (show neI 10 (bat l k) = true by simp [neI, h10])
        go_wp2_with fail
        go_round
        case rel => exact ⟨k + 1, by omega, by go_num, by rw [HR.out, run_step (by rw [HL.out]; exact hlt) HV.out]⟩
        case measure => simp [intOf]; omega
    · have hke : k = n := by omega
      subst hke
      go_wp2_with fail
      go_ret
      exact ⟨ret_int (by rw [HR.out, run_end (by rw [HL.out]; exact Nat.le_refl _)]), rfl⟩

theorem blanks_any (p : Option Addr) (n c : Nat) (l : List UInt8) (m : Nat) (w : World) (h : Bs w p n l) (hn : n ≤ 2147483647) (hm : m ≤ 2147483647) :
    Calls Tryz.prog 29 #[.slice p n c, .int .i64 (m : Int)] w fun e w' => e = .returned (.int .i64 (lead m l)) ∧ w = w' := by
  have HL := Lib.hid h.len
  go_enter Tryz.func29, Tryz.ntmps29
  go_wp2_with fail
  go_loop [5] (fun t => ∃ k : Nat, k ≤ n ∧ k ≤ m ∧ t = .int .i64 k ∧ ∀ i, i < k → bat l i = 32) (fun t => n - (intOf t).toNat)
  case atStart => exact ⟨0, Nat.zero_le _, Nat.zero_le _, rfl, fun i hi => absurd hi (Nat.not_lt_zero i)⟩
  case round =>
    obtain ⟨k, hk, hkm, rfl, hr⟩ := hrel
    have HR := Lib.hid hr
    clear hr
    by_cases hlt : k < n
    · by_cases hm2 : k < m
      · obtain ⟨b, o, rfl, _, hc⟩ := h.cells (by omega)
        have ck := hc k hlt
        clear hc
        by_cases h32 : bat l k = 32
        · have HV := Lib.hid h32
          rw [h32] at ck
          clear h32
          go_wp2_with fail
          go_round
          case rel =>
            refine ⟨k + 1, by omega, by omega, by go_num, fun i hi => ?_⟩
            by_cases e : i = k
            · rw [e]; exact HV.out
            · exact HR.out i (by omega)
          case measure => simp [intOf]; omega
        · have HV := Lib.hid (lead_is hkm (by rw [HL.out]; exact hk) HR.out (Or.inr (Or.inr h32)))
          go_wp2_with fail
          go_ret
          exact ⟨ret_int (by rw [HV.out]), rfl⟩
      · have HV := Lib.hid (lead_is hkm (by rw [HL.out]; exact hk) HR.out (Or.inl (by omega)))
        go_wp2_with fail
        go_ret
        exact ⟨ret_int (by rw [HV.out]), rfl⟩
    · have HV := Lib.hid (lead_is hkm (by rw [HL.out]; exact hk) HR.out (Or.inr (Or.inl (by rw [HL.out]; omega))))
      go_wp2_with fail
      go_ret
      exact ⟨ret_int (by rw [HV.out]), rfl⟩

theorem skip_any (p : Option Addr) (n c : Nat) (l : List UInt8) (s : Nat) (ch : Int) (w : World) (h : Bs w p n l) (hn : n ≤ 2147483647) (hs : s ≤ n) :
    Calls Tryz.prog 56 #[.slice p n c, .int .i64 (s : Int), .int .u8 ch] w fun e w' => e = .returned (.int .i64 (run (eqI ch) l s)) ∧ w = w' := by
  have HL := Lib.hid h.len
  go_enter Tryz.func56, Tryz.ntmps56
  go_wp2_with fail
  go_loop [7] (fun t => ∃ k : Nat, k ≤ n ∧ t = .int .i64 k ∧ run (eqI ch) l s = run (eqI ch) l k) (fun t => n - (intOf t).toNat)
  case atStart => exact ⟨s, hs, rfl, rfl⟩
  case round =>
    obtain ⟨k, hk, rfl, hr⟩ := hrel
    have HR := Lib.hid hr
    clear hr
    by_cases hlt : k < n
    · obtain ⟨b, o, rfl, _, hc⟩ := h.cells (by omega)
      have ck := hc k hlt
      clear hc
      by_cases h10 : bat l k = ch
      · have HV := Lib.hid (show eqI ch (bat l k) = true by simp [eqI, h10])
        rw [h10] at ck
        clear h10
        go_wp2_with fail
        go_round
        case rel => exact ⟨k + 1, by omega, by go_num, by rw [HR.out, run_step (by rw [HL.out]; exact hlt) HV.out]⟩
        case measure => simp [intOf]; omega
      · have HV := Lib.hid (show eqI ch (bat l k) = false by simp [eqI, h10])
        go_wp2_with fail
        go_ret
        exact ⟨ret_int (by rw [HR.out, run_stop HV.out]), rfl⟩
    · have hke : k = n := by omega
      subst hke
      go_wp2_with fail
      go_ret
      exact ⟨ret_int (by rw [HR.out, run_end (by rw [HL.out]; exact Nat.le_refl _)]), rfl⟩

end Go.Proofs.YthddhejbkdenkaaGreatDoor
