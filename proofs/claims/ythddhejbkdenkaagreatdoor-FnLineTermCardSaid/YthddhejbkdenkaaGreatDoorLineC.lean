/- Lines: the parser's prefixes walked. Condition: the text is not empty, lengths are bounded. -/
import Derived.Test.YthddhejbkdenkaaGreatDoorLineB
import Derived.Deep.CutBlock
namespace Go.Proofs.YthddhejbkdenkaaGreatDoor
open Go.ChangeShapes Go.WideShapes Go.ChangeAt Go.RowKit

set_option maxHeartbeats 2000000 in
theorem pBul_any (v : Value) (p : Option Addr) (n c : Nat) (l : List UInt8) (w : World) (h : Bs w p n l) (h0 : 0 < n) (hn : n ≤ 1000000) :
    Calls Tryz.prog 40 #[v, .slice p n c] w fun e w' => e = .returned (.int .i64 (bulF l)) ∧ w = w' := by
  have HL := Lib.hid h.len
  obtain ⟨b, o, rfl, _, hc⟩ := h.cells h0
  have HC := Lib.hid hc
  clear h hc
  go_enter Tryz.func40, Tryz.ntmps40
  go_upto_block 0 with fail
  go_cut [5] (fun s wx => s = .int .i64 (lead 3 l) ∧ wx = w)
  case first =>
    go_wp2_with fail
    go_loop [5] (fun t => ∃ k : Nat, k ≤ n ∧ k ≤ 3 ∧ t = .int .i64 k ∧ ∀ i, i < k → bat l i = 32) (fun t => n - (intOf t).toNat)
    case atStart => exact ⟨0, Nat.zero_le _, Nat.zero_le _, rfl, fun i hi => absurd hi (Nat.not_lt_zero i)⟩
    case round =>
      obtain ⟨k, hk, hkm, rfl, hr⟩ := hrel
      have HR := Lib.hid hr
      clear hr
      by_cases hlt : k < n
      · by_cases hm2 : k < 3
        · have ck := HC.out k hlt
          by_cases h32 : bat l k = 32
          · have HV := Lib.hid h32
            rw [h32] at ck
            clear h32
            go_wp2_with fail
            go_round
            case rel =>
              refine ⟨k + 1, by omega, by omega, by go_num, fun i hi => ?_⟩
              by_cases e : i = k
              · rw [e]; exact HV.out
              · exact HR.out i (by omega)
            case measure => simp [intOf]; omega
          · have HV := Lib.hid (lead_is hkm (by rw [HL.out]; exact hk) HR.out (Or.inr (Or.inr h32)))
            go_wp2_with fail
            go_meet
            exact ⟨by rw [HV.out], rfl⟩
        · have HV := Lib.hid (lead_is hkm (by rw [HL.out]; exact hk) HR.out (Or.inl (by omega)))
          go_wp2_with fail
          go_meet
          exact ⟨by rw [HV.out], rfl⟩
      · have HV := Lib.hid (lead_is hkm (by rw [HL.out]; exact hk) HR.out (Or.inr (Or.inl (by rw [HL.out]; omega))))
        go_wp2_with fail
        go_meet
        exact ⟨by rw [HV.out], rfl⟩
  case rest =>
    obtain ⟨rfl, rfl⟩ := hcut
    obtain ⟨k, hk⟩ : ∃ k, k = lead 3 l := ⟨_, rfl⟩
    have hkl : k ≤ n := by rw [hk, ← HL.out]; exact lead_len 3 l
    have hF : bulF l = if k + 1 < n ∧ (markI (bat l k) && blankI (bat l (k + 1))) = true then k + 2 else 0 := by unfold bulF; rw [← hk, HL.out]
    have HF := Lib.hid hF
    rw [← hk]
    clear hk hF
    by_cases h1 : k + 1 < n
    · have c0 := HC.out k (by omega)
      have c1 := HC.out (k + 1) (by omega)
      clear HL HC
      go_wp2_with fail
      all_goals go_ret
      all_goals refine ⟨ret_int ?_, rfl⟩
      all_goals rw [HF.out]
      all_goals (clear HF c0 c1; simp_all [markI, blankI])
      all_goals first | omega | (split <;> omega)
    · go_wp2_with fail
      go_ret
      exact ⟨ret_int (by rw [HF.out, if_neg (by omega)]; rfl), rfl⟩

set_option maxHeartbeats 2000000 in
theorem pQuo_any (v : Value) (p : Option Addr) (n c : Nat) (l : List UInt8) (w : World) (h : Bs w p n l) (h0 : 0 < n) (hn : n ≤ 1000000) :
    Calls Tryz.prog 38 #[v, .slice p n c] w fun e w' => e = .returned (.int .i64 (quoF l)) ∧ w = w' := by
  have HL := Lib.hid h.len
  obtain ⟨b, o, rfl, _, hc⟩ := h.cells h0
  have HC := Lib.hid hc
  clear h hc
  go_enter Tryz.func38, Tryz.ntmps38
  go_upto_block 0 with fail
  go_cut [5] (fun s wx => s = .int .i64 (lead 3 l) ∧ wx = w)
  case first =>
    go_wp2_with fail
    go_loop [5] (fun t => ∃ k : Nat, k ≤ n ∧ k ≤ 3 ∧ t = .int .i64 k ∧ ∀ i, i < k → bat l i = 32) (fun t => n - (intOf t).toNat)
    case atStart => exact ⟨0, Nat.zero_le _, Nat.zero_le _, rfl, fun i hi => absurd hi (Nat.not_lt_zero i)⟩
    case round =>
      obtain ⟨k, hk, hkm, rfl, hr⟩ := hrel
      have HR := Lib.hid hr
      clear hr
      by_cases hlt : k < n
      · by_cases hm2 : k < 3
        · have ck := HC.out k hlt
          by_cases h32 : bat l k = 32
          · have HV := Lib.hid h32
            rw [h32] at ck
            clear h32
            go_wp2_with fail
            go_round
            case rel =>
              refine ⟨k + 1, by omega, by omega, by go_num, fun i hi => ?_⟩
              by_cases e : i = k
              · rw [e]; exact HV.out
              · exact HR.out i (by omega)
            case measure => simp [intOf]; omega
          · have HV := Lib.hid (lead_is hkm (by rw [HL.out]; exact hk) HR.out (Or.inr (Or.inr h32)))
            go_wp2_with fail
            go_meet
            exact ⟨by rw [HV.out], rfl⟩
        · have HV := Lib.hid (lead_is hkm (by rw [HL.out]; exact hk) HR.out (Or.inl (by omega)))
          go_wp2_with fail
          go_meet
          exact ⟨by rw [HV.out], rfl⟩
      · have HV := Lib.hid (lead_is hkm (by rw [HL.out]; exact hk) HR.out (Or.inr (Or.inl (by rw [HL.out]; omega))))
        go_wp2_with fail
        all_goals go_meet
        all_goals exact ⟨by rw [HV.out], rfl⟩
  case rest =>
    obtain ⟨rfl, rfl⟩ := hcut
    obtain ⟨k, hk⟩ : ∃ k, k = lead 3 l := ⟨_, rfl⟩
    have hkl : k ≤ n := by rw [hk, ← HL.out]; exact lead_len 3 l
    have hF : quoF l = if k < n ∧ (bat l k == 62) = true then (if k + 1 < n ∧ (bat l (k + 1) == 32) = true then k + 2 else k + 1) else 0 := by unfold quoF; rw [← hk, HL.out]
    have HF := Lib.hid hF
    rw [← hk]
    clear hk hF
    by_cases h1 : k < n
    · have c0 := HC.out k (by omega)
      by_cases h2 : k + 1 < n
      · have c1 := HC.out (k + 1) (by omega)
        clear HL HC
        go_wp2_with fail
        all_goals go_ret
        all_goals refine ⟨ret_int ?_, rfl⟩
        all_goals rw [HF.out]
        all_goals (clear HF c0 c1; simp_all)
        all_goals first | omega | (split <;> omega)
      · clear HL HC
        go_wp2_with fail
        all_goals go_ret
        all_goals refine ⟨ret_int ?_, rfl⟩
        all_goals rw [HF.out]
        all_goals (clear HF c0; simp_all)
        all_goals first | omega | (split <;> omega)
    · go_wp2_with fail
      all_goals go_ret
      all_goals exact ⟨ret_int (by rw [HF.out, if_neg (by omega)]; rfl), rfl⟩

set_option maxHeartbeats 2000000 in
theorem pTerm_any (v : Value) (p : Option Addr) (n c : Nat) (l : List UInt8) (w : World) (h : Bs w p n l) (hn : n ≤ 1000000) :
    Calls Tryz.prog 42 #[v, .slice p n c] w fun e w' => e = .returned (.int .i64 (termF l)) ∧ w = w' := by
  have hl := h.len
  have hF : termF l = if 1 < n ∧ (bat l 0 == 58 && blankI (bat l 1)) = true then 2 else 0 := by unfold termF; rw [hl]
  have HF := Lib.hid hF
  clear hF
  by_cases h1 : 1 < n
  · obtain ⟨b, o, rfl, _, hc⟩ := h.cells (by omega)
    have c0 := hc 0 (by omega)
    have c1 := hc 1 (by omega)
    simp only [Nat.add_zero] at c0
    clear hc h hl
    cases hB : (bat l 0 == 58 && blankI (bat l 1)) with
    | false =>
      have HV := Lib.hid (show termF l = 0 by rw [HF.out, hB]; simp)
      clear HF
      cases h58 : (bat l 0 == 58) with
      | false =>
        have h58' : (bat l 0 != 58) = true := by simp only [bne, h58, Bool.not_false]
        clear hB
        go_enter Tryz.func42, Tryz.ntmps42
        go_wp2_with fail
        go_ret
        exact ⟨ret_int (by rw [HV.out]; rfl), rfl⟩
      | true =>
        have h58' : (bat l 0 != 58) = false := by simp only [bne, h58, Bool.not_true]
        have hbl : blankI (bat l 1) = false := by rw [h58] at hB; simpa using hB
        have h32 : (bat l 1 == 32) = false := by unfold blankI at hbl; cases hx : (bat l 1 == 32) with | false => rfl | true => rw [hx] at hbl; simp at hbl
        have h9 : (bat l 1 == 9) = false := by unfold blankI at hbl; cases hx : (bat l 1 == 9) with | false => rfl | true => rw [hx] at hbl; simp at hbl
        clear hB hbl
        go_enter Tryz.func42, Tryz.ntmps42
        go_wp2_with fail
        go_ret
        exact ⟨ret_int (by rw [HV.out]; rfl), rfl⟩
    | true =>
      have HV := Lib.hid (show termF l = 2 by rw [HF.out, hB]; simp [h1])
      have h58 : bat l 0 = 58 := by simp only [Bool.and_eq_true, beq_iff_eq] at hB; exact hB.1
      rw [h58] at c0
      have hbl : blankI (bat l 1) = true := by simp only [Bool.and_eq_true] at hB; exact hB.2
      clear hB HF h58
      cases h32 : (bat l 1 == 32) with
      | true =>
        clear hbl
        go_enter Tryz.func42, Tryz.ntmps42
        go_wp2_with fail
        refine wp_loop_rounds 1 ?_
        rw [rounds_succ]
        go_wp2_with fail
        go_ret
        exact ⟨ret_int (by rw [HV.out]; rfl), rfl⟩
      | false =>
        have h9 : (bat l 1 == 9) = true := by unfold blankI at hbl; rw [h32] at hbl; simpa using hbl
        clear hbl
        go_enter Tryz.func42, Tryz.ntmps42
        go_wp2_with fail
        refine wp_loop_rounds 1 ?_
        rw [rounds_succ]
        go_wp2_with fail
        go_ret
        exact ⟨ret_int (by rw [HV.out]; rfl), rfl⟩
  · have HV := Lib.hid (show termF l = 0 by rw [HF.out, if_neg (by omega)])
    clear h hl HF
    go_enter Tryz.func42, Tryz.ntmps42
    go_wp2_with fail
    go_ret
    exact ⟨ret_int (by rw [HV.out]; rfl), rfl⟩

/-- a call hands back some number, and the world as it was -/
def SomeInt (w : World) (e : Ending) (w' : World) : Prop := ∃ z : Int, e = .returned (.int .i64 z) ∧ w = w'

set_option maxHeartbeats 2000000 in
theorem pCode_any (v : Value) (p : Option Addr) (n c : Nat) (l : List UInt8) (w : World) (h : Bs w p n l) (h0 : 0 < n) (hn : n ≤ 1000000) :
    Calls Tryz.prog 39 #[v, .slice p n c] w (SomeInt w) := by
  obtain ⟨b, o, rfl, _, hc⟩ := h.cells h0
  have c0 := hc 0 h0
  simp only [Nat.add_zero] at c0
  by_cases h4 : 4 ≤ n
  · have c1 := hc 1 (by omega)
    have c2 := hc 2 (by omega)
    have c3 := hc 3 (by omega)
    clear h hc
    go_enter Tryz.func39, Tryz.ntmps39
    go_wp2_with fail
    all_goals go_ret
    all_goals exact ⟨_, rfl, rfl⟩
  · clear h hc
    go_enter Tryz.func39, Tryz.ntmps39
    go_wp2_with fail
    all_goals go_ret
    all_goals exact ⟨_, rfl, rfl⟩

end Go.Proofs.YthddhejbkdenkaaGreatDoor
