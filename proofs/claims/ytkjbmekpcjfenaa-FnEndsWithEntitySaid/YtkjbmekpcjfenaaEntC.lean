/- Entities: blackfriday.zzHTMLEntity walked: it is eEnd. Condition: lengths are bounded. -/
import Derived.Test.YtkjbmekpcjfenaaEntB
namespace Go.Proofs.Ytkjbmekpcjfenaa
open Go.ChangeShapes Go.WideShapes Go.ChangeAt Go.RowKit

/-- the names of entities, as the code reads them: at most 31 letters, at most two digits -/
theorem nam_eq (l : List UInt8) (i : Nat) : nam l i = if brun lettI l i 31 < i + 2 then 0 else semi l (brun digI l (brun lettI l i 31) 2) := by
  have h0 := le_run lettI l i
  have hl59 : lettI 59 = false := by decide
  have hd59 : digI 59 = false := by decide
  unfold nam
  by_cases h1 : run lettI l i < i + 2
  · rw [if_pos (Or.inl h1), if_pos (by unfold brun; omega)]
  · rw [if_neg (show ¬ brun lettI l i 31 < i + 2 by unfold brun; omega)]
    by_cases h2 : i + 31 < run lettI l i
    · rw [if_pos (Or.inr (Or.inl h2))]
      have hb : brun lettI l i 31 = i + 31 := by unfold brun; omega
      have hm := (run_mid (i := i) (k := i + 31) (by omega) h2).2
      have hnd : digI (bat l (i + 31)) = false := by
        unfold lettI at hm
        simp only [Bool.or_eq_true, decide_eq_true_eq] at hm
        simp only [digI, decide_eq_false_iff_not]
        omega
      rw [hb, brun, run_stop hnd, Nat.min_eq_left (by omega), semi_class hl59 hm]
    · have hb : brun lettI l i 31 = run lettI l i := by unfold brun; omega
      rw [hb]
      have h3 := le_run digI l (run lettI l i)
      by_cases h4 : run lettI l i + 2 < run digI l (run lettI l i)
      · rw [if_pos (Or.inr (Or.inr h4)), brun, Nat.min_eq_right (by omega)]
        exact (semi_class hd59 (run_mid (i := run lettI l i) (by omega) h4).2).symm
      · rw [if_neg (by omega), brun, Nat.min_eq_left (by omega)]

theorem numR_eq (l : List UInt8) (i : Nat) : numR l i 7 6 = if atB l i 120 || atB l i 88 then num l (i + 1) hexI 6 else num l i digI 7 := by
  unfold numR
  rw [num_eq (by decide) l (i + 1) 6 (by omega), num_eq (by decide) l i 7 (by omega)]

set_option maxHeartbeats 1000000 in
set_option maxRecDepth 100000 in
theorem zzHTMLEntity_any (p : Option Addr) (n c : Nat) (l : List UInt8) (i : Nat) (w : World) (h : Bs w p n l) (hn : n ≤ 1000000) (hi : i < n) :
    Calls Try.prog 33 #[.slice p n c, .int .i64 i] w fun e w' => e = .returned (.int .i64 (eEnd l i)) ∧ w = w' := by
  have hl := h.len
  have hcell : ∀ k, k < n → ∃ b o, p = some ⟨b, o, none⟩ ∧ w.cell? ⟨b, o + k, none⟩ = some (.int .u8 (bat l k)) := fun k hk => by
    obtain ⟨b, o, hp, _, hc⟩ := h.cells (by omega)
    exact ⟨b, o, hp, hc k hk⟩
  by_cases h1 : i + 1 < n
  · obtain ⟨b, o, rfl, c0⟩ := hcell i hi
    obtain ⟨b', o', he, c1⟩ := hcell (i + 1) h1
    cases he
    cases h38 : (bat l i == 38) with
    | false =>
      have h38' : (bat l i != 38) = true := by simp only [bne, h38, Bool.not_false]
      have hv : eEnd l i = 0 := by rw [eEnd]; simp [atB, h38]
      have HV := Lib.hid hv
      clear hv hcell hl
      go_enter Try.func33, Try.ntmps33
      go_wp2_with fail
      go_ret
      exact ⟨ret_int (by rw [HV.out]; rfl), rfl⟩
    | true =>
      have h38' : (bat l i != 38) = false := by simp only [bne, h38, Bool.not_true]
      have ha : atB l i 38 = true := by simp [atB, hl, hi, h38]
      cases h35 : (bat l (i + 1) == 35) with
      | true =>
        have hb : atB l (i + 1) 35 = true := by simp [atB, hl, h1, h35]
        have hv : eEnd l i = numR l (i + 2) 7 6 := by rw [numR_eq, eEnd, ha, hb]; rfl
        have HV := Lib.hid hv
        clear hv hcell hl ha hb
        go_enter Try.func33, Try.ntmps33
        go_wp2_with fail
        refine (zzNumber_any _ n c l (i + 2) 7 6 _ _ h (by omega) hn (by omega) (by omega) (by omega)).mono ?_
        rintro e w' ⟨rfl, rfl⟩
        go_wp2_with fail
        go_ret
        exact ⟨ret_int (by rw [HV.out]), rfl⟩
      | false =>
        have hb : atB l (i + 1) 35 = false := by simp [atB, h35]
        have hv : eEnd l i = nam l (i + 1) := by rw [eEnd, ha, hb]; rfl
        rw [nam_eq] at hv
        have HV := Lib.hid hv
        clear hv ha hb
        go_enter Try.func33, Try.ntmps33
        go_upto_block 0 with fail
        go_cut [1, 5] (fun s1 s5 wx => ∃ k : Nat, k ≤ 31 ∧ s1 = .int .i64 ((i + 1 + k : Nat) : Int) ∧ s5 = .int .i64 k ∧ brun lettI l (i + 1) 31 = i + 1 + k ∧ wx = w)
        case first =>
          go_wp2_with fail
          go_loop [1, 5] (fun s1 s5 => ∃ k : Nat, k ≤ 31 ∧ k ≤ 31 + n ∧ s1 = .int .i64 ((i + 1 + k : Nat) : Int) ∧ s5 = .int .i64 k ∧ run lettI l (i + 1) = run lettI l (i + 1 + k)) (fun _ s5 => 31 - (intOf s5).toNat)
          case atStart => exact ⟨0, Nat.zero_le _, Nat.zero_le _, by go_num, rfl, rfl⟩
          case round =>
            obtain ⟨k, hkmk, _, rfl, rfl, hr⟩ := hrel
            have HR := Lib.hid hr
            clear hr
            by_cases hlt : i + 1 + k < n
            · by_cases hm : k < 31
              · obtain ⟨b'', o'', he, c2⟩ := hcell (i + 1 + k) hlt
                cases he
                have HL := Lib.hid hl
                clear hcell
                cases hp : lettI (bat l (i + 1 + k)) with
                | true =>
                  have HP := Lib.hid hp
                  go_wp2_with (go_at_call 42; refine (isletter_any _ _).mono ?_; rintro e w' ⟨rfl, rfl⟩)
                  go_round
                  case rel => exact ⟨k + 1, by omega, by omega, by go_num, by go_num, by rw [HR.out, run_step (by rw [HL.out]; exact hlt) HP.out]; rfl⟩
                  case measure => simp [intOf]; omega
                | false =>
                  have HP := Lib.hid hp
                  go_wp2_with (go_at_call 42; refine (isletter_any _ _).mono ?_; rintro e w' ⟨rfl, rfl⟩)
                  go_meet
                  exact ⟨k, by omega, by go_num, rfl, brun_stop HR.out hkmk (Or.inr (Or.inr HP.out)), rfl⟩
              · have hkm2 : k = 31 := by omega
                have HK := Lib.hid hkm2
                clear hkm2
                go_wp2_with fail
                go_meet
                exact ⟨k, hkmk, by go_num, rfl, brun_stop HR.out hkmk (Or.inl HK.out), rfl⟩
            · go_wp2_with fail
              go_meet
              exact ⟨k, hkmk, by go_num, rfl, brun_stop HR.out hkmk (Or.inr (Or.inl (by omega))), rfl⟩
        case rest =>
          obtain ⟨k, hkm, rfl, rfl, hb1, rfl⟩ := hcut
          by_cases hk2 : k < 2
          · have hv2 : eEnd l i = 0 := by rw [HV.out, hb1, if_pos (by omega)]
            have HV2 := Lib.hid hv2
            clear hv2 hb1
            go_wp2_with fail
            go_ret
            exact ⟨ret_int (by rw [HV2.out]; rfl), rfl⟩
          · have HVa : eEnd l i = semi l (brun digI l (i + 1 + k) 2) := by rw [HV.out, hb1, if_neg (by omega)]
            have HVa' := Lib.hid HVa
            clear HVa hb1
            go_upto_block 2 with fail
            go_cut [1, 5] (fun s1 s5 wx => ∃ j : Nat, j ≤ 2 ∧ s1 = .int .i64 ((i + 1 + k + j : Nat) : Int) ∧ s5 = .int .i64 j ∧ brun digI l (i + 1 + k) 2 = i + 1 + k + j ∧ wx = wc)
            case first =>
              go_wp2_with fail
              go_loop [1, 5] (fun s1 s5 => ∃ j : Nat, j ≤ 2 ∧ j ≤ 2 + n ∧ s1 = .int .i64 ((i + 1 + k + j : Nat) : Int) ∧ s5 = .int .i64 j ∧ run digI l (i + 1 + k) = run digI l (i + 1 + k + j)) (fun _ s5 => 2 - (intOf s5).toNat)
              case atStart => exact ⟨0, Nat.zero_le _, Nat.zero_le _, by go_num, rfl, rfl⟩
              case round =>
                obtain ⟨j, hkmj, _, rfl, rfl, hr⟩ := hrel
                have HR := Lib.hid hr
                clear hr
                by_cases hlt : i + 1 + k + j < n
                · by_cases hm : j < 2
                  · obtain ⟨b'', o'', he, c2⟩ := hcell (i + 1 + k + j) hlt
                    cases he
                    have HL := Lib.hid hl
                    clear hcell
                    cases hp : digI (bat l (i + 1 + k + j)) with
                    | true =>
                      have HP := Lib.hid hp
                      go_wp2_with (go_at_call 43; refine (isdigit_any _ _).mono ?_; rintro e w' ⟨rfl, rfl⟩)
                      go_round
                      case rel => exact ⟨j + 1, by omega, by omega, by go_num, by go_num, by rw [HR.out, run_step (by rw [HL.out]; exact hlt) HP.out]; rfl⟩
                      case measure => simp [intOf]; omega
                    | false =>
                      have HP := Lib.hid hp
                      go_wp2_with (go_at_call 43; refine (isdigit_any _ _).mono ?_; rintro e w' ⟨rfl, rfl⟩)
                      go_meet
                      exact ⟨j, by omega, by go_num, rfl, brun_stop HR.out hkmj (Or.inr (Or.inr HP.out)), rfl⟩
                  · have hkm2 : j = 2 := by omega
                    have HK := Lib.hid hkm2
                    clear hkm2
                    go_wp2_with fail
                    go_meet
                    exact ⟨j, hkmj, by go_num, rfl, brun_stop HR.out hkmj (Or.inl HK.out), rfl⟩
                · go_wp2_with fail
                  go_meet
                  exact ⟨j, hkmj, by go_num, rfl, brun_stop HR.out hkmj (Or.inr (Or.inl (by omega))), rfl⟩
            case rest =>
              rename_i w0
              obtain ⟨k2, hkm2, rfl, rfl, hb2, rfl⟩ := hcut
              have HVa := HVa'.out
              rw [hb2] at HVa
              have HVb := Lib.hid HVa
              clear HVa hb2
              by_cases hlt : i + 1 + k + k2 < n
              · obtain ⟨b'', o'', he, c2⟩ := hcell (i + 1 + k + k2) hlt
                cases he
                have h59 : semi l (i + 1 + k + k2) = if bat l (i + 1 + k + k2) == 59 then i + 1 + k + k2 + 1 else 0 := by simp [semi, atB, hl, hlt]
                have H59 := Lib.hid h59
                clear h59 hcell hl
                cases hs : (bat l (i + 1 + k + k2) == 59) with
                | true =>
                  have hs' : (bat l (i + 1 + k + k2) != 59) = false := by simp only [bne, hs, Bool.not_true]
                  go_wp2_with fail
                  go_ret
                  exact ⟨ret_int (by rw [HVb.out, H59.out, hs]; simp only [if_true]; omega), rfl⟩
                | false =>
                  have hs' : (bat l (i + 1 + k + k2) != 59) = true := by simp only [bne, hs, Bool.not_false]
                  go_wp2_with fail
                  go_ret
                  exact ⟨ret_int (by rw [HVb.out, H59.out, hs]; rfl), rfl⟩
              · have h59 : semi l (i + 1 + k + k2) = 0 := by simp [semi, atB, hl, hlt]
                have H59 := Lib.hid h59
                clear h59 hcell hl
                go_wp2_with fail
                go_ret
                exact ⟨ret_int (by rw [HVb.out, H59.out]; rfl), rfl⟩
  · have hv : eEnd l i = 0 := by
      rw [eEnd]
      have hb : atB l (i + 1) 35 = false := by simp [atB, hl, h1]
      rw [hb, nam, run_end (by omega)]
      simp
    have HV := Lib.hid hv
    clear hv hcell hl
    go_enter Try.func33, Try.ntmps33
    go_wp2_with fail
    go_ret
    exact ⟨ret_int (by rw [HV.out]; rfl), rfl⟩

end Go.Proofs.Ytkjbmekpcjfenaa
