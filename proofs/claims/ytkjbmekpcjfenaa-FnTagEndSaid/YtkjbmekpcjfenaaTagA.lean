/- Tags: blanks, letters and the names of tags, walked. Condition: ASCII bytes for the letters; lengths are bounded. -/
import Derived.Test.YtkjbmekpcjfenaaRun
import Derived.Deep.CutBlock
namespace Go.Proofs.Ytkjbmekpcjfenaa
open Go.ChangeShapes Go.WideShapes Go.ChangeAt Go.RowKit

/-- white space of tags -/
def blkI (n : Int) : Bool := n == 9 || n == 10 || n == 12 || n == 13 || n == 32
/-- a byte of a tag's name behind the first one -/
def nameI (n : Int) : Bool := lettI n || digI n || n == 45

theorem zzBlank_any (n : Int) (w : World) :
    Calls Try.prog 45 #[.int .u8 n] w fun e w' => e = .returned (.bool (blkI n)) ∧ w = w' := by
  go_enter Try.func45, Try.ntmps45
  go_wp2
  all_goals go_ret
  all_goals refine ⟨ret_bool ?_, rfl⟩
  all_goals rw [Bool.eq_iff_iff]
  all_goals simp only [blkI, Bool.or_eq_true, beq_iff_eq, true_iff]
  all_goals omega

theorem inSpace_any (n : Int) (w : World) :
    Calls Try.prog 17 #[.int .u8 n] w fun e w' => e = .returned (.bool (blkI n)) ∧ w = w' := by
  go_enter Try.func17, Try.ntmps17
  go_wp2
  all_goals go_ret
  all_goals refine ⟨ret_bool ?_, rfl⟩
  all_goals rw [Bool.eq_iff_iff]
  all_goals simp only [blkI, Bool.or_eq_true, beq_iff_eq, true_iff]
  all_goals omega

set_option maxHeartbeats 400000 in
theorem zzBlanks_any (p : Option Addr) (n c : Nat) (l : List UInt8) (i : Nat) (j : Int) (w : World) (h : Bs w p n l) (hj : j = i) (hn : n ≤ 1000000) (hi : i ≤ 1000010) :
    Calls Try.prog 35 #[.slice p n c, .int .i64 j] w fun e w' => e = .returned (.int .i64 (run blkI l i)) ∧ w = w' := by
  subst hj
  have HL := Lib.hid h.len
  go_enter Try.func35, Try.ntmps35
  go_wp2
  go_loop [1] (fun t => ∃ k : Nat, t = .int .i64 k ∧ run blkI l i = run blkI l k ∧ k ≤ 1000010) (fun t => n - (intOf t).toNat)
  case atStart => exact ⟨i, rfl, rfl, hi⟩
  case round =>
    obtain ⟨k, rfl, hr, hk⟩ := hrel
    have HR := Lib.hid hr
    clear hr
    by_cases hlt : k < n
    · obtain ⟨b, o, rfl, _, hc⟩ := h.cells (by omega)
      have c1 := hc k hlt
      clear hc
      cases hp : blkI (bat l k) with
      | true =>
        have HP := Lib.hid hp
        go_wp2_with (go_at_call 45; refine (zzBlank_any _ _).mono ?_; rintro e w' ⟨rfl, rfl⟩)
        go_round
        case rel => exact ⟨k + 1, by go_num, by rw [HR.out, run_step (by rw [HL.out]; exact hlt) HP.out], by omega⟩
        case measure => simp [intOf]; omega
      | false =>
        have HP := Lib.hid hp
        go_wp2_with (go_at_call 45; refine (zzBlank_any _ _).mono ?_; rintro e w' ⟨rfl, rfl⟩)
        go_ret
        exact ⟨ret_int (by rw [HR.out, run_stop HP.out]), rfl⟩
    · go_wp2
      go_ret
      exact ⟨ret_int (by rw [HR.out, run_end (by rw [HL.out]; omega)]), rfl⟩

/-- is there an ASCII letter -/
def letN (l : List UInt8) (i : Nat) : Nat := if i < l.length ∧ lettI (bat l i) = true then 1 else 0

set_option maxHeartbeats 400000 in
set_option maxRecDepth 100000 in
theorem zzLetter_any (p : Option Addr) (n c : Nat) (l : List UInt8) (i : Nat) (j : Int) (w : World) (h : Bs w p n l) (hj : j = i) (hn : n ≤ 1000000) (hi : i ≤ 1000010) (ha : ∀ k, bat l k < 128) :
    Calls Try.prog 44 #[.slice p n c, .int .i64 j] w fun e w' => e = .returned (.int .i64 (letN l i)) ∧ w = w' := by
  subst hj
  have hl := h.len
  by_cases hlt : i < n
  · obtain ⟨b, o, rfl, _, hc⟩ := h.cells (by omega)
    have c1 := hc i hlt
    have ha1 := ha i
    clear hc ha
    cases hp : lettI (bat l i) with
    | true =>
      have hv : letN l i = 1 := by rw [letN, if_pos ⟨by omega, hp⟩]
      have HV := Lib.hid hv
      clear hv hl
      go_enter Try.func44, Try.ntmps44
      go_wp2_with (go_at_call 42; refine (isletter_any _ _).mono ?_; rintro e w' ⟨rfl, rfl⟩)
      go_ret
      exact ⟨ret_int (by rw [HV.out]; rfl), rfl⟩
    | false =>
      have hv : letN l i = 0 := by rw [letN, if_neg (by rw [hp]; simp)]
      have HV := Lib.hid hv
      have e1 : (bat l i == 197) = false := by simp; omega
      have e2 : (bat l i == 226) = false := by simp; omega
      clear hv hl
      by_cases h1 : i + 1 < n
      · by_cases h2 : i + 2 < n
        · go_enter Try.func44, Try.ntmps44
          go_wp2_with (go_at_call 42; refine (isletter_any _ _).mono ?_; rintro e w' ⟨rfl, rfl⟩)
          go_ret
          exact ⟨ret_int (by rw [HV.out]; rfl), rfl⟩
        · go_enter Try.func44, Try.ntmps44
          go_wp2_with (go_at_call 42; refine (isletter_any _ _).mono ?_; rintro e w' ⟨rfl, rfl⟩)
          go_ret
          exact ⟨ret_int (by rw [HV.out]; rfl), rfl⟩
      · go_enter Try.func44, Try.ntmps44
        go_wp2_with (go_at_call 42; refine (isletter_any _ _).mono ?_; rintro e w' ⟨rfl, rfl⟩)
        go_ret
        exact ⟨ret_int (by rw [HV.out]; rfl), rfl⟩
  · have hv : letN l i = 0 := by rw [letN, if_neg (by rw [hl]; omega)]
    have HV := Lib.hid hv
    clear hv hl ha
    go_enter Try.func44, Try.ntmps44
    go_wp2
    go_ret
    exact ⟨ret_int (by rw [HV.out]; rfl), rfl⟩

theorem zzLetter_no (p : Option Addr) (n c : Nat) (l : List UInt8) (i : Nat) (j : Int) (w : World) (h : Bs w p n l) (hj : j = i) (hn : n ≤ 1000000) (hi : i ≤ 1000010) (ha : ∀ k, bat l k < 128) (h0 : letN l i = 0) :
    Calls Try.prog 44 #[.slice p n c, .int .i64 j] w fun e w' => e = .returned (.int .i64 0) ∧ w = w' :=
  (zzLetter_any p n c l i j w h hj hn hi ha).mono fun _ _ ⟨he, hw⟩ => ⟨by rw [he, h0]; rfl, hw⟩
theorem zzLetter_yes (p : Option Addr) (n c : Nat) (l : List UInt8) (i : Nat) (j : Int) (w : World) (h : Bs w p n l) (hj : j = i) (hn : n ≤ 1000000) (hi : i ≤ 1000010) (ha : ∀ k, bat l k < 128) (h0 : letN l i = 1) :
    Calls Try.prog 44 #[.slice p n c, .int .i64 j] w fun e w' => e = .returned (.int .i64 1) ∧ w = w' :=
  (zzLetter_any p n c l i j w h hj hn hi ha).mono fun _ _ ⟨he, hw⟩ => ⟨by rw [he, h0]; rfl, hw⟩

/-- the end of a tag's name at a place (0: none) -/
def tname (l : List UInt8) (i : Nat) : Nat := if letN l i = 0 then 0 else run nameI l i
theorem letN_yes {l : List UInt8} {i : Nat} (h : letN l i ≠ 0) : i < l.length ∧ lettI (bat l i) = true := by
  unfold letN at h
  split at h
  · assumption
  · exact absurd rfl h
theorem letN_eq {l : List UInt8} {i : Nat} (h1 : i < l.length) : letN l i = if lettI (bat l i) then 1 else 0 := by
  unfold letN
  by_cases hp : lettI (bat l i) = true
  · rw [if_pos ⟨h1, hp⟩, if_pos hp]
  · rw [if_neg (fun e => hp e.2), if_neg hp]

set_option maxHeartbeats 800000 in
theorem zzTagName_any (p : Option Addr) (n c : Nat) (l : List UInt8) (i : Nat) (j : Int) (w : World) (h : Bs w p n l) (hj : j = i) (hn : n ≤ 1000000) (hi : i ≤ 1000000) (ha : ∀ k, bat l k < 128) :
    Calls Try.prog 34 #[.slice p n c, .int .i64 j] w fun e w' => e = .returned (.int .i64 (tname l i)) ∧ w = w' := by
  subst hj
  have HL := Lib.hid h.len
  have HA := Lib.hid ha
  clear ha
  by_cases h0 : letN l i = 0
  · have hv : tname l i = 0 := by rw [tname, if_pos h0]
    have HV := Lib.hid hv
    clear hv
    go_enter Try.func34, Try.ntmps34
    go_wp2_with fail
    refine (zzLetter_any p n c l i _ _ h rfl hn (by omega) HA.out).mono ?_
    rintro e w' ⟨rfl, rfl⟩
    rw [h0]
    go_wp2_with fail
    go_ret
    exact ⟨ret_int (by rw [HV.out]; rfl), rfl⟩
  · obtain ⟨hlt, hle⟩ := letN_yes h0
    have h1 : letN l i = 1 := by rw [letN_eq hlt, if_pos hle]
    have hv : tname l i = run nameI l (i + 1) := by rw [tname, if_neg h0, run_step hlt (by simp [nameI, hle])]
    have HV := Lib.hid hv
    have H1 := Lib.hid h1
    clear hv h0 h1 hle hlt
    go_enter Try.func34, Try.ntmps34
    go_wp2_with fail
    refine (zzLetter_any p n c l i _ _ h rfl hn (by omega) HA.out).mono ?_
    rintro e w' ⟨rfl, rfl⟩
    rw [H1.out]
    go_wp2_with fail
    go_loop [1, 5] (fun t u => ∃ k : Nat, t = .int .i64 k ∧ tname l i = run nameI l k ∧ k ≤ 1000010) (fun t _ => n - (intOf t).toNat)
    case atStart => exact ⟨i + 1, by go_num, HV.out, by omega⟩
    case round =>
      obtain ⟨k, rfl, hr, hk⟩ := hrel
      have HR := Lib.hid hr
      clear hr
      by_cases hlt : k < n
      · obtain ⟨b, o, rfl, _, hc⟩ := h.cells (by omega)
        have c1 := hc k hlt
        clear hc
        have hln : letN l k = if lettI (bat l k) then 1 else 0 := letN_eq (by rw [HL.out]; exact hlt)
        cases hp : lettI (bat l k) with
        | true =>
          have HP : Hid (nameI (bat l k) = true) := Lib.hid (by simp [nameI, hp])
          rw [hp] at hln
          have HN := Lib.hid hln
          clear hln
          go_wp2_with fail
          refine (zzLetter_any _ n c l k _ _ h rfl hn (by omega) HA.out).mono ?_
          rintro e w' ⟨rfl, rfl⟩
          rw [HN.out]
          go_wp2_with fail
          go_round
          case rel => exact ⟨k + 1, by go_num, by rw [HR.out, run_step (by rw [HL.out]; exact hlt) HP.out], by omega⟩
          case measure => simp [intOf]; omega
        | false =>
          rw [hp] at hln
          have HN := Lib.hid hln
          clear hln
          by_cases hdm : digI (bat l k) = true ∨ bat l k = 45
          · have HP : Hid (nameI (bat l k) = true) := Lib.hid (by rcases hdm with e | e <;> simp [nameI, e])
            cases hd : digI (bat l k) with
            | true =>
              clear hdm
              go_wp2_with fail
              refine (zzLetter_any _ n c l k _ _ h rfl hn (by omega) HA.out).mono ?_
              rintro e w' ⟨rfl, rfl⟩
              rw [HN.out]
              go_wp2_with (go_at_call 43; refine (isdigit_any _ _).mono ?_; rintro e w' ⟨rfl, rfl⟩)
              go_round
              case rel => exact ⟨k + 1, by go_num, by rw [HR.out, run_step (by rw [HL.out]; exact hlt) HP.out], by omega⟩
              case measure => simp [intOf]; omega
            | false =>
              have h45 : (bat l k != 45) = false := by
                rcases hdm with e | e
                · rw [hd] at e; cases e
                · simp [e]
              clear hdm
              go_wp2_with fail
              refine (zzLetter_any _ n c l k _ _ h rfl hn (by omega) HA.out).mono ?_
              rintro e w' ⟨rfl, rfl⟩
              rw [HN.out]
              go_wp2_with (go_at_call 43; refine (isdigit_any _ _).mono ?_; rintro e w' ⟨rfl, rfl⟩)
              go_round
              case rel => exact ⟨k + 1, by go_num, by rw [HR.out, run_step (by rw [HL.out]; exact hlt) HP.out], by omega⟩
              case measure => simp [intOf]; omega
          · have hd : digI (bat l k) = false := by
              cases e : digI (bat l k)
              · rfl
              · exact absurd (Or.inl e) hdm
            have h45 : (bat l k != 45) = true := by
              simp only [bne_iff_ne]
              exact fun e => hdm (Or.inr e)
            have HP : Hid (nameI (bat l k) = false) := Lib.hid (by
              have : (bat l k == 45) = false := by simpa [bne] using h45
              simp [nameI, hp, hd, this])
            clear hdm
            go_wp2_with fail
            refine (zzLetter_any _ n c l k _ _ h rfl hn (by omega) HA.out).mono ?_
            rintro e w' ⟨rfl, rfl⟩
            rw [HN.out]
            go_wp2_with (go_at_call 43; refine (isdigit_any _ _).mono ?_; rintro e w' ⟨rfl, rfl⟩)
            go_ret
            exact ⟨ret_int (by rw [HR.out, run_stop HP.out]), rfl⟩
      · go_wp2_with fail
        go_ret
        exact ⟨ret_int (by rw [HR.out, run_end (by rw [HL.out]; omega)]), rfl⟩

end Go.Proofs.Ytkjbmekpcjfenaa
