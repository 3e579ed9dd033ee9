/- Tags: the names of attributes, walked. Condition: ASCII bytes; lengths are bounded. -/
import Derived.Test.YtkjbmekpcjfenaaTagA
namespace Go.Proofs.Ytkjbmekpcjfenaa
open Go.ChangeShapes Go.WideShapes Go.ChangeAt Go.RowKit

/-- a byte of an attribute's name behind the first one -/
def attrI (n : Int) : Bool := lettI n || digI n || n == 58 || n == 46 || n == 95 || n == 45
/-- the end of an attribute's name at a place (0: none) -/
def aname (l : List UInt8) (i : Nat) : Nat := if i < l.length ∧ (lettI (bat l i) || bat l i == 95 || bat l i == 58) = true then run attrI l i else 0

set_option maxHeartbeats 2000000 in
set_option maxRecDepth 100000 in
theorem zzAttributeName_any (p : Option Addr) (n c : Nat) (l : List UInt8) (i : Nat) (j : Int) (w : World) (h : Bs w p n l) (hj : j = i) (hn : n ≤ 1000000) (hi : i ≤ 1000000) (ha : ∀ k, bat l k < 128) :
    Calls Try.prog 48 #[.slice p n c, .int .i64 j] w fun e w' => e = .returned (.int .i64 (aname l i)) ∧ w = w' := by
  subst hj
  have HL := Lib.hid h.len
  have HA := Lib.hid ha
  clear ha
  by_cases hlt : i < n
  · obtain ⟨b, o, rfl, _, hc⟩ := h.cells (by omega)
    have c0 := hc i hlt
    have hln0 : letN l i = if lettI (bat l i) then 1 else 0 := letN_eq (by rw [HL.out]; exact hlt)
    clear hc
    cases hp : lettI (bat l i) with
    | true =>
      have hv : aname l i = run attrI l (i + 1) := by rw [aname, if_pos ⟨by rw [HL.out]; exact hlt, by simp [hp]⟩, run_step (by rw [HL.out]; exact hlt) (by simp [attrI, hp])]
      have HV := Lib.hid hv
      have hln0' : letN l i = 1 := by rw [hln0, hp]; rfl
      have HN0 := Lib.hid hln0'
      clear hv hln0 hln0'
      go_enter Try.func48, Try.ntmps48
      go_wp2_with fail
      refine (zzLetter_yes _ n c l i _ _ h rfl hn (by omega) HA.out HN0.out).mono ?_
      rintro e w' ⟨rfl, rfl⟩
      go_wp2_with fail
      go_loop [1, 5] (fun t u => ∃ k : Nat, t = .int .i64 k ∧ aname l i = run attrI l k ∧ k ≤ 1000010) (fun t _ => n - (intOf t).toNat)
      case atStart => exact ⟨i + 1, by go_num, HV.out, by omega⟩
      case round =>
        obtain ⟨k, rfl, hr, hk⟩ := hrel
        have HR := Lib.hid hr
        clear hr
        by_cases hlt : k < n
        · obtain ⟨b'', o'', he, _, hc⟩ := h.cells (by omega)
          cases he
          have c1 := hc k hlt
          clear hc
          have hln : letN l k = if lettI (bat l k) then 1 else 0 := letN_eq (by rw [HL.out]; exact hlt)
          cases hp : lettI (bat l k) with
          | true =>
            have HP : Hid (attrI (bat l k) = true) := Lib.hid (by simp [attrI, hp])
            have hln' : letN l k = 1 := by rw [hln, hp]; rfl
            have HN := Lib.hid hln'
            clear hln hln'
            go_wp2_with fail
            refine (zzLetter_yes _ n c l k _ _ h rfl hn (by omega) HA.out HN.out).mono ?_
            rintro e w' ⟨rfl, rfl⟩
            go_wp2_with fail
            go_round
            case rel => first | exact ⟨k + 1, by go_num, by rw [HR.out, run_step (by rw [HL.out]; exact hlt) HP.out], by omega⟩ | ((repeat apply Exists.intro); exact ⟨⟨k + 1, by go_num, by rw [HR.out, run_step (by rw [HL.out]; exact hlt) HP.out], by omega⟩, rfl⟩)
            case measure => simp [intOf]; omega
          | false =>
            have hln' : letN l k = 0 := by rw [hln, hp]; rfl
            have HN := Lib.hid hln'
            clear hln hln'
            cases hd : digI (bat l k) with
            | true =>
              have HP : Hid (attrI (bat l k) = true) := Lib.hid (by simp [attrI, hd])
              go_wp2_with fail
              refine (zzLetter_no _ n c l k _ _ h rfl hn (by omega) HA.out HN.out).mono ?_
              rintro e w' ⟨rfl, rfl⟩
              go_wp2_with (go_at_call 43; refine (isdigit_any _ _).mono ?_; rintro e w' ⟨rfl, rfl⟩)
              go_round
              case rel => first | exact ⟨k + 1, by go_num, by rw [HR.out, run_step (by rw [HL.out]; exact hlt) HP.out], by omega⟩ | ((repeat apply Exists.intro); exact ⟨⟨k + 1, by go_num, by rw [HR.out, run_step (by rw [HL.out]; exact hlt) HP.out], by omega⟩, rfl⟩)
              case measure => simp [intOf]; omega
            | false =>
              by_cases e58 : bat l k = 58
              · have q58 : (bat l k == 58) = true := by simp [e58]
                have r58 : (bat l k != 58) = false := by simp [e58]
                clear e58
                have HP : Hid (attrI (bat l k) = true) := Lib.hid (by simp [attrI, q58])
                go_wp2_with fail
                refine (zzLetter_no _ n c l k _ _ h rfl hn (by omega) HA.out HN.out).mono ?_
                rintro e w' ⟨rfl, rfl⟩
                go_wp2_with (go_at_call 43; refine (isdigit_any _ _).mono ?_; rintro e w' ⟨rfl, rfl⟩)
                go_round
                case rel => first | exact ⟨k + 1, by go_num, by rw [HR.out, run_step (by rw [HL.out]; exact hlt) HP.out], by omega⟩ | ((repeat apply Exists.intro); exact ⟨⟨k + 1, by go_num, by rw [HR.out, run_step (by rw [HL.out]; exact hlt) HP.out], by omega⟩, rfl⟩)
                case measure => simp [intOf]; omega
              have q58 : (bat l k == 58) = false := by simp [e58]
              have r58 : (bat l k != 58) = true := by simp [e58]
              clear e58
              by_cases e46 : bat l k = 46
              · have q46 : (bat l k == 46) = true := by simp [e46]
                have r46 : (bat l k != 46) = false := by simp [e46]
                clear e46
                have HP : Hid (attrI (bat l k) = true) := Lib.hid (by simp [attrI, q46])
                go_wp2_with fail
                refine (zzLetter_no _ n c l k _ _ h rfl hn (by omega) HA.out HN.out).mono ?_
                rintro e w' ⟨rfl, rfl⟩
                go_wp2_with (go_at_call 43; refine (isdigit_any _ _).mono ?_; rintro e w' ⟨rfl, rfl⟩)
                go_round
                case rel => first | exact ⟨k + 1, by go_num, by rw [HR.out, run_step (by rw [HL.out]; exact hlt) HP.out], by omega⟩ | ((repeat apply Exists.intro); exact ⟨⟨k + 1, by go_num, by rw [HR.out, run_step (by rw [HL.out]; exact hlt) HP.out], by omega⟩, rfl⟩)
                case measure => simp [intOf]; omega
              have q46 : (bat l k == 46) = false := by simp [e46]
              have r46 : (bat l k != 46) = true := by simp [e46]
              clear e46
              by_cases e95 : bat l k = 95
              · have q95 : (bat l k == 95) = true := by simp [e95]
                have r95 : (bat l k != 95) = false := by simp [e95]
                clear e95
                have HP : Hid (attrI (bat l k) = true) := Lib.hid (by simp [attrI, q95])
                go_wp2_with fail
                refine (zzLetter_no _ n c l k _ _ h rfl hn (by omega) HA.out HN.out).mono ?_
                rintro e w' ⟨rfl, rfl⟩
                go_wp2_with (go_at_call 43; refine (isdigit_any _ _).mono ?_; rintro e w' ⟨rfl, rfl⟩)
                go_round
                case rel => first | exact ⟨k + 1, by go_num, by rw [HR.out, run_step (by rw [HL.out]; exact hlt) HP.out], by omega⟩ | ((repeat apply Exists.intro); exact ⟨⟨k + 1, by go_num, by rw [HR.out, run_step (by rw [HL.out]; exact hlt) HP.out], by omega⟩, rfl⟩)
                case measure => simp [intOf]; omega
              have q95 : (bat l k == 95) = false := by simp [e95]
              have r95 : (bat l k != 95) = true := by simp [e95]
              clear e95
              by_cases e45 : bat l k = 45
              · have q45 : (bat l k == 45) = true := by simp [e45]
                have r45 : (bat l k != 45) = false := by simp [e45]
                clear e45
                have HP : Hid (attrI (bat l k) = true) := Lib.hid (by simp [attrI, q45])
                go_wp2_with fail
                refine (zzLetter_no _ n c l k _ _ h rfl hn (by omega) HA.out HN.out).mono ?_
                rintro e w' ⟨rfl, rfl⟩
                go_wp2_with (go_at_call 43; refine (isdigit_any _ _).mono ?_; rintro e w' ⟨rfl, rfl⟩)
                go_round
                case rel => first | exact ⟨k + 1, by go_num, by rw [HR.out, run_step (by rw [HL.out]; exact hlt) HP.out], by omega⟩ | ((repeat apply Exists.intro); exact ⟨⟨k + 1, by go_num, by rw [HR.out, run_step (by rw [HL.out]; exact hlt) HP.out], by omega⟩, rfl⟩)
                case measure => simp [intOf]; omega
              have q45 : (bat l k == 45) = false := by simp [e45]
              have r45 : (bat l k != 45) = true := by simp [e45]
              clear e45
              have HP : Hid (attrI (bat l k) = false) := Lib.hid (by simp only [attrI, hp, hd, q58, q46, q95, q45, Bool.or_false])
              go_wp2_with fail
              refine (zzLetter_no _ n c l k _ _ h rfl hn (by omega) HA.out HN.out).mono ?_
              rintro e w' ⟨rfl, rfl⟩
              go_wp2_with (go_at_call 43; refine (isdigit_any _ _).mono ?_; rintro e w' ⟨rfl, rfl⟩)
              go_ret
              exact ⟨ret_int (by rw [HR.out, run_stop HP.out]), rfl⟩
        · go_wp2_with fail
          go_ret
          exact ⟨ret_int (by rw [HR.out, run_end (by rw [HL.out]; omega)]), rfl⟩
    | false =>
      have hln0' : letN l i = 0 := by rw [hln0, hp]; rfl
      have HN0 := Lib.hid hln0'
      clear hln0 hln0'
      by_cases e95 : bat l i = 95
      · have q95 : (bat l i == 95) = true := by simp [e95]
        have r95 : (bat l i != 95) = false := by simp [e95]
        clear e95
        have hv : aname l i = run attrI l (i + 1) := by rw [aname, if_pos ⟨by rw [HL.out]; exact hlt, by simp [q95]⟩, run_step (by rw [HL.out]; exact hlt) (by simp [attrI, q95])]
        have HV := Lib.hid hv
        clear hv
        have hle : decide (n ≤ i) = false := by simp; omega
        go_enter Try.func48, Try.ntmps48
        go_wp2_with fail
        refine (zzLetter_no _ n c l i _ _ h rfl hn (by omega) HA.out HN0.out).mono ?_
        rintro e w' ⟨rfl, rfl⟩
        go_wp2_with fail
        go_loop [1, 5] (fun t u => ∃ k : Nat, t = .int .i64 k ∧ aname l i = run attrI l k ∧ k ≤ 1000010) (fun t _ => n - (intOf t).toNat)
        case atStart => exact ⟨i + 1, by go_num, HV.out, by omega⟩
        case round =>
          obtain ⟨k, rfl, hr, hk⟩ := hrel
          have HR := Lib.hid hr
          clear hr
          by_cases hlt : k < n
          · obtain ⟨b'', o'', he, _, hc⟩ := h.cells (by omega)
            cases he
            have c1 := hc k hlt
            clear hc
            have hln : letN l k = if lettI (bat l k) then 1 else 0 := letN_eq (by rw [HL.out]; exact hlt)
            cases hp : lettI (bat l k) with
            | true =>
              have HP : Hid (attrI (bat l k) = true) := Lib.hid (by simp [attrI, hp])
              have hln' : letN l k = 1 := by rw [hln, hp]; rfl
              have HN := Lib.hid hln'
              clear hln hln'
              go_wp2_with fail
              refine (zzLetter_yes _ n c l k _ _ h rfl hn (by omega) HA.out HN.out).mono ?_
              rintro e w' ⟨rfl, rfl⟩
              go_wp2_with fail
              go_round
              case rel => first | exact ⟨k + 1, by go_num, by rw [HR.out, run_step (by rw [HL.out]; exact hlt) HP.out], by omega⟩ | ((repeat apply Exists.intro); exact ⟨⟨k + 1, by go_num, by rw [HR.out, run_step (by rw [HL.out]; exact hlt) HP.out], by omega⟩, rfl⟩)
              case measure => simp [intOf]; omega
            | false =>
              have hln' : letN l k = 0 := by rw [hln, hp]; rfl
              have HN := Lib.hid hln'
              clear hln hln'
              cases hd : digI (bat l k) with
              | true =>
                have HP : Hid (attrI (bat l k) = true) := Lib.hid (by simp [attrI, hd])
                go_wp2_with fail
                refine (zzLetter_no _ n c l k _ _ h rfl hn (by omega) HA.out HN.out).mono ?_
                rintro e w' ⟨rfl, rfl⟩
                go_wp2_with (go_at_call 43; refine (isdigit_any _ _).mono ?_; rintro e w' ⟨rfl, rfl⟩)
                go_round
                case rel => first | exact ⟨k + 1, by go_num, by rw [HR.out, run_step (by rw [HL.out]; exact hlt) HP.out], by omega⟩ | ((repeat apply Exists.intro); exact ⟨⟨k + 1, by go_num, by rw [HR.out, run_step (by rw [HL.out]; exact hlt) HP.out], by omega⟩, rfl⟩)
                case measure => simp [intOf]; omega
              | false =>
                by_cases e58 : bat l k = 58
                · have q58 : (bat l k == 58) = true := by simp [e58]
                  have r58 : (bat l k != 58) = false := by simp [e58]
                  clear e58
                  have HP : Hid (attrI (bat l k) = true) := Lib.hid (by simp [attrI, q58])
                  go_wp2_with fail
                  refine (zzLetter_no _ n c l k _ _ h rfl hn (by omega) HA.out HN.out).mono ?_
                  rintro e w' ⟨rfl, rfl⟩
                  go_wp2_with (go_at_call 43; refine (isdigit_any _ _).mono ?_; rintro e w' ⟨rfl, rfl⟩)
                  go_round
                  case rel => first | exact ⟨k + 1, by go_num, by rw [HR.out, run_step (by rw [HL.out]; exact hlt) HP.out], by omega⟩ | ((repeat apply Exists.intro); exact ⟨⟨k + 1, by go_num, by rw [HR.out, run_step (by rw [HL.out]; exact hlt) HP.out], by omega⟩, rfl⟩)
                  case measure => simp [intOf]; omega
                have q58 : (bat l k == 58) = false := by simp [e58]
                have r58 : (bat l k != 58) = true := by simp [e58]
                clear e58
                by_cases e46 : bat l k = 46
                · have q46 : (bat l k == 46) = true := by simp [e46]
                  have r46 : (bat l k != 46) = false := by simp [e46]
                  clear e46
                  have HP : Hid (attrI (bat l k) = true) := Lib.hid (by simp [attrI, q46])
                  go_wp2_with fail
                  refine (zzLetter_no _ n c l k _ _ h rfl hn (by omega) HA.out HN.out).mono ?_
                  rintro e w' ⟨rfl, rfl⟩
                  go_wp2_with (go_at_call 43; refine (isdigit_any _ _).mono ?_; rintro e w' ⟨rfl, rfl⟩)
                  go_round
                  case rel => first | exact ⟨k + 1, by go_num, by rw [HR.out, run_step (by rw [HL.out]; exact hlt) HP.out], by omega⟩ | ((repeat apply Exists.intro); exact ⟨⟨k + 1, by go_num, by rw [HR.out, run_step (by rw [HL.out]; exact hlt) HP.out], by omega⟩, rfl⟩)
                  case measure => simp [intOf]; omega
                have q46 : (bat l k == 46) = false := by simp [e46]
                have r46 : (bat l k != 46) = true := by simp [e46]
                clear e46
                by_cases e95 : bat l k = 95
                · have q95 : (bat l k == 95) = true := by simp [e95]
                  have r95 : (bat l k != 95) = false := by simp [e95]
                  clear e95
                  have HP : Hid (attrI (bat l k) = true) := Lib.hid (by simp [attrI, q95])
                  go_wp2_with fail
                  refine (zzLetter_no _ n c l k _ _ h rfl hn (by omega) HA.out HN.out).mono ?_
                  rintro e w' ⟨rfl, rfl⟩
                  go_wp2_with (go_at_call 43; refine (isdigit_any _ _).mono ?_; rintro e w' ⟨rfl, rfl⟩)
                  go_round
                  case rel => first | exact ⟨k + 1, by go_num, by rw [HR.out, run_step (by rw [HL.out]; exact hlt) HP.out], by omega⟩ | ((repeat apply Exists.intro); exact ⟨⟨k + 1, by go_num, by rw [HR.out, run_step (by rw [HL.out]; exact hlt) HP.out], by omega⟩, rfl⟩)
                  case measure => simp [intOf]; omega
                have q95 : (bat l k == 95) = false := by simp [e95]
                have r95 : (bat l k != 95) = true := by simp [e95]
                clear e95
                by_cases e45 : bat l k = 45
                · have q45 : (bat l k == 45) = true := by simp [e45]
                  have r45 : (bat l k != 45) = false := by simp [e45]
                  clear e45
                  have HP : Hid (attrI (bat l k) = true) := Lib.hid (by simp [attrI, q45])
                  go_wp2_with fail
                  refine (zzLetter_no _ n c l k _ _ h rfl hn (by omega) HA.out HN.out).mono ?_
                  rintro e w' ⟨rfl, rfl⟩
                  go_wp2_with (go_at_call 43; refine (isdigit_any _ _).mono ?_; rintro e w' ⟨rfl, rfl⟩)
                  go_round
                  case rel => first | exact ⟨k + 1, by go_num, by rw [HR.out, run_step (by rw [HL.out]; exact hlt) HP.out], by omega⟩ | ((repeat apply Exists.intro); exact ⟨⟨k + 1, by go_num, by rw [HR.out, run_step (by rw [HL.out]; exact hlt) HP.out], by omega⟩, rfl⟩)
                  case measure => simp [intOf]; omega
                have q45 : (bat l k == 45) = false := by simp [e45]
                have r45 : (bat l k != 45) = true := by simp [e45]
                clear e45
                have HP : Hid (attrI (bat l k) = false) := Lib.hid (by simp only [attrI, hp, hd, q58, q46, q95, q45, Bool.or_false])
                go_wp2_with fail
                refine (zzLetter_no _ n c l k _ _ h rfl hn (by omega) HA.out HN.out).mono ?_
                rintro e w' ⟨rfl, rfl⟩
                go_wp2_with (go_at_call 43; refine (isdigit_any _ _).mono ?_; rintro e w' ⟨rfl, rfl⟩)
                go_ret
                exact ⟨ret_int (by rw [HR.out, run_stop HP.out]), rfl⟩
          · go_wp2_with fail
            go_ret
            exact ⟨ret_int (by rw [HR.out, run_end (by rw [HL.out]; omega)]), rfl⟩
      have q95 : (bat l i == 95) = false := by simp [e95]
      have r95 : (bat l i != 95) = true := by simp [e95]
      clear e95
      by_cases e58 : bat l i = 58
      · have q58 : (bat l i == 58) = true := by simp [e58]
        have r58 : (bat l i != 58) = false := by simp [e58]
        clear e58
        have hv : aname l i = run attrI l (i + 1) := by rw [aname, if_pos ⟨by rw [HL.out]; exact hlt, by simp [q58]⟩, run_step (by rw [HL.out]; exact hlt) (by simp [attrI, q58])]
        have HV := Lib.hid hv
        clear hv
        have hle : decide (n ≤ i) = false := by simp; omega
        go_enter Try.func48, Try.ntmps48
        go_wp2_with fail
        refine (zzLetter_no _ n c l i _ _ h rfl hn (by omega) HA.out HN0.out).mono ?_
        rintro e w' ⟨rfl, rfl⟩
        go_wp2_with fail
        go_loop [1, 5] (fun t u => ∃ k : Nat, t = .int .i64 k ∧ aname l i = run attrI l k ∧ k ≤ 1000010) (fun t _ => n - (intOf t).toNat)
        case atStart => exact ⟨i + 1, by go_num, HV.out, by omega⟩
        case round =>
          obtain ⟨k, rfl, hr, hk⟩ := hrel
          have HR := Lib.hid hr
          clear hr
          by_cases hlt : k < n
          · obtain ⟨b'', o'', he, _, hc⟩ := h.cells (by omega)
            cases he
            have c1 := hc k hlt
            clear hc
            have hln : letN l k = if lettI (bat l k) then 1 else 0 := letN_eq (by rw [HL.out]; exact hlt)
            cases hp : lettI (bat l k) with
            | true =>
              have HP : Hid (attrI (bat l k) = true) := Lib.hid (by simp [attrI, hp])
              have hln' : letN l k = 1 := by rw [hln, hp]; rfl
              have HN := Lib.hid hln'
              clear hln hln'
              go_wp2_with fail
              refine (zzLetter_yes _ n c l k _ _ h rfl hn (by omega) HA.out HN.out).mono ?_
              rintro e w' ⟨rfl, rfl⟩
              go_wp2_with fail
              go_round
              case rel => first | exact ⟨k + 1, by go_num, by rw [HR.out, run_step (by rw [HL.out]; exact hlt) HP.out], by omega⟩ | ((repeat apply Exists.intro); exact ⟨⟨k + 1, by go_num, by rw [HR.out, run_step (by rw [HL.out]; exact hlt) HP.out], by omega⟩, rfl⟩)
              case measure => simp [intOf]; omega
            | false =>
              have hln' : letN l k = 0 := by rw [hln, hp]; rfl
              have HN := Lib.hid hln'
              clear hln hln'
              cases hd : digI (bat l k) with
              | true =>
                have HP : Hid (attrI (bat l k) = true) := Lib.hid (by simp [attrI, hd])
                go_wp2_with fail
                refine (zzLetter_no _ n c l k _ _ h rfl hn (by omega) HA.out HN.out).mono ?_
                rintro e w' ⟨rfl, rfl⟩
                go_wp2_with (go_at_call 43; refine (isdigit_any _ _).mono ?_; rintro e w' ⟨rfl, rfl⟩)
                go_round
                case rel => first | exact ⟨k + 1, by go_num, by rw [HR.out, run_step (by rw [HL.out]; exact hlt) HP.out], by omega⟩ | ((repeat apply Exists.intro); exact ⟨⟨k + 1, by go_num, by rw [HR.out, run_step (by rw [HL.out]; exact hlt) HP.out], by omega⟩, rfl⟩)
                case measure => simp [intOf]; omega
              | false =>
                by_cases e58 : bat l k = 58
                · have q58 : (bat l k == 58) = true := by simp [e58]
                  have r58 : (bat l k != 58) = false := by simp [e58]
                  clear e58
                  have HP : Hid (attrI (bat l k) = true) := Lib.hid (by simp [attrI, q58])
                  go_wp2_with fail
                  refine (zzLetter_no _ n c l k _ _ h rfl hn (by omega) HA.out HN.out).mono ?_
                  rintro e w' ⟨rfl, rfl⟩
                  go_wp2_with (go_at_call 43; refine (isdigit_any _ _).mono ?_; rintro e w' ⟨rfl, rfl⟩)
                  go_round
                  case rel => first | exact ⟨k + 1, by go_num, by rw [HR.out, run_step (by rw [HL.out]; exact hlt) HP.out], by omega⟩ | ((repeat apply Exists.intro); exact ⟨⟨k + 1, by go_num, by rw [HR.out, run_step (by rw [HL.out]; exact hlt) HP.out], by omega⟩, rfl⟩)
                  case measure => simp [intOf]; omega
                have q58 : (bat l k == 58) = false := by simp [e58]
                have r58 : (bat l k != 58) = true := by simp [e58]
                clear e58
                by_cases e46 : bat l k = 46
                · have q46 : (bat l k == 46) = true := by simp [e46]
                  have r46 : (bat l k != 46) = false := by simp [e46]
                  clear e46
                  have HP : Hid (attrI (bat l k) = true) := Lib.hid (by simp [attrI, q46])
                  go_wp2_with fail
                  refine (zzLetter_no _ n c l k _ _ h rfl hn (by omega) HA.out HN.out).mono ?_
                  rintro e w' ⟨rfl, rfl⟩
                  go_wp2_with (go_at_call 43; refine (isdigit_any _ _).mono ?_; rintro e w' ⟨rfl, rfl⟩)
                  go_round
                  case rel => first | exact ⟨k + 1, by go_num, by rw [HR.out, run_step (by rw [HL.out]; exact hlt) HP.out], by omega⟩ | ((repeat apply Exists.intro); exact ⟨⟨k + 1, by go_num, by rw [HR.out, run_step (by rw [HL.out]; exact hlt) HP.out], by omega⟩, rfl⟩)
                  case measure => simp [intOf]; omega
                have q46 : (bat l k == 46) = false := by simp [e46]
                have r46 : (bat l k != 46) = true := by simp [e46]
                clear e46
                by_cases e95 : bat l k = 95
                · have q95 : (bat l k == 95) = true := by simp [e95]
                  have r95 : (bat l k != 95) = false := by simp [e95]
                  clear e95
                  have HP : Hid (attrI (bat l k) = true) := Lib.hid (by simp [attrI, q95])
                  go_wp2_with fail
                  refine (zzLetter_no _ n c l k _ _ h rfl hn (by omega) HA.out HN.out).mono ?_
                  rintro e w' ⟨rfl, rfl⟩
                  go_wp2_with (go_at_call 43; refine (isdigit_any _ _).mono ?_; rintro e w' ⟨rfl, rfl⟩)
                  go_round
                  case rel => first | exact ⟨k + 1, by go_num, by rw [HR.out, run_step (by rw [HL.out]; exact hlt) HP.out], by omega⟩ | ((repeat apply Exists.intro); exact ⟨⟨k + 1, by go_num, by rw [HR.out, run_step (by rw [HL.out]; exact hlt) HP.out], by omega⟩, rfl⟩)
                  case measure => simp [intOf]; omega
                have q95 : (bat l k == 95) = false := by simp [e95]
                have r95 : (bat l k != 95) = true := by simp [e95]
                clear e95
                by_cases e45 : bat l k = 45
                · have q45 : (bat l k == 45) = true := by simp [e45]
                  have r45 : (bat l k != 45) = false := by simp [e45]
                  clear e45
                  have HP : Hid (attrI (bat l k) = true) := Lib.hid (by simp [attrI, q45])
                  go_wp2_with fail
                  refine (zzLetter_no _ n c l k _ _ h rfl hn (by omega) HA.out HN.out).mono ?_
                  rintro e w' ⟨rfl, rfl⟩
                  go_wp2_with (go_at_call 43; refine (isdigit_any _ _).mono ?_; rintro e w' ⟨rfl, rfl⟩)
                  go_round
                  case rel => first | exact ⟨k + 1, by go_num, by rw [HR.out, run_step (by rw [HL.out]; exact hlt) HP.out], by omega⟩ | ((repeat apply Exists.intro); exact ⟨⟨k + 1, by go_num, by rw [HR.out, run_step (by rw [HL.out]; exact hlt) HP.out], by omega⟩, rfl⟩)
                  case measure => simp [intOf]; omega
                have q45 : (bat l k == 45) = false := by simp [e45]
                have r45 : (bat l k != 45) = true := by simp [e45]
                clear e45
                have HP : Hid (attrI (bat l k) = false) := Lib.hid (by simp only [attrI, hp, hd, q58, q46, q95, q45, Bool.or_false])
                go_wp2_with fail
                refine (zzLetter_no _ n c l k _ _ h rfl hn (by omega) HA.out HN.out).mono ?_
                rintro e w' ⟨rfl, rfl⟩
                go_wp2_with (go_at_call 43; refine (isdigit_any _ _).mono ?_; rintro e w' ⟨rfl, rfl⟩)
                go_ret
                exact ⟨ret_int (by rw [HR.out, run_stop HP.out]), rfl⟩
          · go_wp2_with fail
            go_ret
            exact ⟨ret_int (by rw [HR.out, run_end (by rw [HL.out]; omega)]), rfl⟩
      have q58 : (bat l i == 58) = false := by simp [e58]
      have r58 : (bat l i != 58) = true := by simp [e58]
      clear e58
      have hv : aname l i = 0 := by rw [aname, if_neg (by rw [hp, q95, q58]; simp)]
      have HV := Lib.hid hv
      clear hv
      go_enter Try.func48, Try.ntmps48
      go_wp2_with fail
      refine (zzLetter_no _ n c l i _ _ h rfl hn (by omega) HA.out HN0.out).mono ?_
      rintro e w' ⟨rfl, rfl⟩
      go_wp2_with fail
      go_ret
      exact ⟨ret_int (by rw [HV.out]; rfl), rfl⟩
  · have hv : aname l i = 0 := by rw [aname, if_neg (by rw [HL.out]; omega)]
    have hln0 : letN l i = 0 := by rw [letN, if_neg (by rw [HL.out]; omega)]
    have HN0 := Lib.hid hln0
    have HV := Lib.hid hv
    clear hv hln0
    go_enter Try.func48, Try.ntmps48
    go_wp2_with fail
    refine (zzLetter_no _ n c l i _ _ h rfl hn (by omega) HA.out HN0.out).mono ?_
    rintro e w' ⟨rfl, rfl⟩
    go_wp2_with fail
    go_ret
    exact ⟨ret_int (by rw [HV.out]; rfl), rfl⟩

end Go.Proofs.Ytkjbmekpcjfenaa
