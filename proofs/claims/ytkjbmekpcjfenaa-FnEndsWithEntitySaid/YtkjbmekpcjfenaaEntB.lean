/- Entities: blackfriday.zzNumber and zzHTMLEntity walked: zzHTMLEntity is eEnd. Condition: lengths are bounded. -/
import Derived.Test.YtkjbmekpcjfenaaEnt
import Derived.Deep.CutBlock
namespace Go.Proofs.Ytkjbmekpcjfenaa
open Go.ChangeShapes Go.WideShapes Go.ChangeAt Go.RowKit

/-- the end of at most m bytes of a class -/
def brun (P : Int → Bool) (l : List UInt8) (i m : Nat) : Nat := min (run P l i) (i + m)
theorem span_mid (P : Int → Bool) (l : List UInt8) : ∀ k, k < span P l → k < l.length ∧ P (bat l k) = true := by
  induction l with
  | nil => intro k hk; simp [span] at hk
  | cons c r ih =>
    intro k hk
    rw [span] at hk
    by_cases hp : P (c.toNat : Int) = true
    · rw [if_pos hp] at hk
      cases k with
      | zero => exact ⟨by simp, by simpa [bat] using hp⟩
      | succ k =>
        have := ih k (by omega)
        exact ⟨by simp; omega, by simpa [bat] using this.2⟩
    · rw [if_neg hp] at hk
      omega
theorem run_mid {P : Int → Bool} {l : List UInt8} {i k : Nat} (h1 : i ≤ k) (h2 : k < run P l i) : k < l.length ∧ P (bat l k) = true := by
  unfold run at h2
  have h := span_mid P (l.drop i) (k - i) (by omega)
  rw [List.length_drop] at h
  refine ⟨by omega, ?_⟩
  have e : bat (l.drop i) (k - i) = bat l k := by
    unfold bat
    simp only [List.getD, List.getElem?_drop]
    rw [show i + (k - i) = k by omega]
  rw [← e]
  exact h.2
theorem semi_class {P : Int → Bool} (h59 : P 59 = false) {l : List UInt8} {k : Nat} (h : P (bat l k) = true) : semi l k = 0 := by
  unfold semi atB
  rw [if_neg]
  intro e
  simp at e
  rw [e.2] at h
  rw [h59] at h
  cases h
def numB (l : List UInt8) (i : Nat) (P : Int → Bool) (m : Nat) : Nat := if brun P l i m = i then 0 else semi l (brun P l i m)
theorem num_eq {P : Int → Bool} (h59 : P 59 = false) (l : List UInt8) (i m : Nat) (hm : 0 < m) : numB l i P m = num l i P m := by
  have h0 := le_run P l i
  unfold numB num brun
  by_cases h1 : run P l i < i + 1
  · rw [if_pos (by omega), if_pos (Or.inl h1)]
  · by_cases h2 : i + m < run P l i
    · rw [if_neg (by omega), if_pos (Or.inr h2), Nat.min_eq_right (by omega)]
      exact semi_class h59 (run_mid (i := i) (by omega) h2).2
    · rw [if_neg (by omega), if_neg (by omega), Nat.min_eq_left (by omega)]

theorem brun_stop {P : Int → Bool} {l : List UInt8} {i m k : Nat} (hr : run P l i = run P l (i + k)) (hk : k ≤ m) (hs : k = m ∨ l.length ≤ i + k ∨ P (bat l (i + k)) = false) : brun P l i m = i + k := by
  have h := le_run P l (i + k)
  unfold brun
  rcases hs with rfl | h1 | h1
  · rw [hr]; omega
  · rw [hr, run_end h1]; omega
  · rw [hr, run_stop h1]; omega

/-- a number reference behind its sign -/
def numR (l : List UInt8) (i dec hex : Nat) : Nat := if atB l i 120 || atB l i 88 then numB l (i + 1) hexI hex else numB l i digI dec

theorem hex_dig {c : Int} (h : digI c = true) : hexI c = true := by simp [hexI, h]

set_option maxHeartbeats 1000000 in
set_option maxRecDepth 100000 in
theorem zzNumber_any (p : Option Addr) (n c : Nat) (l : List UInt8) (i dec hex : Nat) (j : Int) (w : World) (h : Bs w p n l) (hj : j = i) (hn : n ≤ 1000000) (hi : i ≤ 1000010) (hd : dec ≤ 100) (hh : hex ≤ 100) :
    Calls Try.prog 41 #[.slice p n c, .int .i64 j, .int .i64 dec, .int .i64 hex] w fun e w' => e = .returned (.int .i64 ((numR l i dec hex : Nat) : Int)) ∧ w = w' := by
  subst hj
  have hl := h.len
  have hcell : ∀ k, k < n → ∃ b o, p = some ⟨b, o, none⟩ ∧ w.cell? ⟨b, o + k, none⟩ = some (.int .u8 (bat l k)) := fun k hk => by
    obtain ⟨b, o, hp, _, hc⟩ := h.cells (by omega)
    exact ⟨b, o, hp, hc k hk⟩
  go_enter Try.func41, Try.ntmps41
  go_upto_region 2 with fail
  go_cut [10] (fun x wx => x = .bool (atB l i 120 || atB l i 88) ∧ wx = w)
  case first =>
    by_cases hlt : i < n
    · obtain ⟨b, o, rfl, c1⟩ := hcell i hlt
      have hv : (atB l i 120 || atB l i 88) = (bat l i == 120 || bat l i == 88) := by simp [atB, hl, hlt]
      have HV := Lib.hid hv
      clear hv hcell
      cases h120 : (bat l i == 120) with
      | true =>
        go_wp2_with fail
        go_meet
        exact ⟨by rw [HV.out, h120]; rfl, rfl⟩
      | false =>
        go_wp2_with fail
        go_meet
        exact ⟨by rw [HV.out, h120]; rfl, rfl⟩
    · have hv : (atB l i 120 || atB l i 88) = false := by simp [atB, hl, hlt]
      have HV := Lib.hid hv
      clear hv hcell
      go_wp2_with fail
      go_meet
      exact ⟨by rw [HV.out], rfl⟩
  case rest =>
    obtain ⟨rfl, rfl⟩ := hcut
    cases hx : (atB l i 120 || atB l i 88) with
    | true =>
      have HX := Lib.hid hx
      clear hx
      go_upto_block 0 with fail
      go_cut [1, 11] (fun s1 s11 wx => ∃ k : Nat, k ≤ hex ∧ s1 = .int .i64 ((i + 1 + k : Nat) : Int) ∧ s11 = .int .i64 k ∧ brun hexI l (i + 1) hex = i + 1 + k ∧ wx = wc)
      case first =>
        go_wp2_with fail
        go_loop [1, 11] (fun s1 s11 => ∃ k : Nat, k ≤ hex ∧ k ≤ hex + n ∧ s1 = .int .i64 ((i + 1 + k : Nat) : Int) ∧ s11 = .int .i64 k ∧ run hexI l (i + 1) = run hexI l (i + 1 + k)) (fun _ s11 => hex - (intOf s11).toNat)
        case atStart => exact ⟨0, Nat.zero_le _, Nat.zero_le _, by go_num, rfl, rfl⟩
        case round =>
          obtain ⟨k, hkm, _, rfl, rfl, hr⟩ := hrel
          have HR := Lib.hid hr
          clear hr
          by_cases hlt : i + 1 + k < n
          · by_cases hm : k < hex
            · obtain ⟨b, o, rfl, c1⟩ := hcell (i + 1 + k) hlt
              have HL := Lib.hid hl
              clear hcell
              cases hdg : digI (bat l (i + 1 + k)) with
              | true =>
                have HP : Hid (hexI (bat l (i + 1 + k)) = true) := Lib.hid (hex_dig hdg)
                go_wp2_with (first | (go_at_call 43; refine (isdigit_any _ _).mono ?_; rintro e w' ⟨rfl, rfl⟩) | (go_at_call 50; refine (zzHex_any _ _).mono ?_; rintro e w' ⟨rfl, rfl⟩))
                go_round
                case rel => exact ⟨k + 1, by omega, by omega, by go_num, by go_num, by rw [HR.out, run_step (by rw [HL.out]; exact hlt) HP.out]; rfl⟩
                case measure => simp [intOf]; omega
              | false =>
                cases hp : hexI (bat l (i + 1 + k)) with
                | true =>
                  have HP := Lib.hid hp
                  go_wp2_with (first | (go_at_call 43; refine (isdigit_any _ _).mono ?_; rintro e w' ⟨rfl, rfl⟩) | (go_at_call 50; refine (zzHex_any _ _).mono ?_; rintro e w' ⟨rfl, rfl⟩))
                  go_round
                  case rel => exact ⟨k + 1, by omega, by omega, by go_num, by go_num, by rw [HR.out, run_step (by rw [HL.out]; exact hlt) HP.out]; rfl⟩
                  case measure => simp [intOf]; omega
                | false =>
                  have HP := Lib.hid hp
                  go_wp2_with (first | (go_at_call 43; refine (isdigit_any _ _).mono ?_; rintro e w' ⟨rfl, rfl⟩) | (go_at_call 50; refine (zzHex_any _ _).mono ?_; rintro e w' ⟨rfl, rfl⟩))
                  go_meet
                  exact ⟨k, by omega, by go_num, rfl, brun_stop HR.out hkm (Or.inr (Or.inr HP.out)), rfl⟩
            · have hkm2 : k = hex := by omega
              have HK := Lib.hid hkm2
              clear hkm2
              go_wp2_with fail
              go_meet
              exact ⟨k, hkm, by go_num, rfl, brun_stop HR.out hkm (Or.inl HK.out), rfl⟩
          · go_wp2_with fail
            go_meet
            exact ⟨k, hkm, by go_num, rfl, brun_stop HR.out hkm (Or.inr (Or.inl (by omega))), rfl⟩
      case rest =>
        rename_i w0
        obtain ⟨k, hkm, rfl, rfl, hb, rfl⟩ := hcut
        have hv : ((numR l i dec hex : Nat) : Int) = (numB l (i + 1) hexI hex : Int) := by rw [numR, HX.out]; rfl
        have HV := Lib.hid hv
        have HB := Lib.hid hb
        clear hv hb
        by_cases hk0 : k = 0
        · subst hk0
          go_wp2_with fail
          go_ret
          exact ⟨ret_int (by rw [HV.out, numB, if_pos (by rw [HB.out]; try rfl)]; try rfl), rfl⟩
        · have hk0' : ((k : Int) == 0) = false := by simp; omega
          have hv2 : numB l (i + 1) hexI hex = semi l (i + 1 + k) := by rw [numB, HB.out, if_neg (by omega)]
          have HV2 := Lib.hid hv2
          clear hv2
          by_cases hlt : i + 1 + k < n
          · obtain ⟨b, o, rfl, c1⟩ := hcell (i + 1 + k) hlt
            have h59 : semi l (i + 1 + k) = if bat l (i + 1 + k) == 59 then i + 1 + k + 1 else 0 := by simp [semi, atB, hl, hlt]
            have H59 := Lib.hid h59
            clear h59 hcell hl
            cases hs : (bat l (i + 1 + k) == 59) with
            | true =>
              have hs' : (bat l (i + 1 + k) != 59) = false := by simp only [bne, hs, Bool.not_true]
              go_wp2_with fail
              go_ret
              exact ⟨ret_int (by rw [HV.out, HV2.out, H59.out, hs]; simp only [if_true]; omega), rfl⟩
            | false =>
              have hs' : (bat l (i + 1 + k) != 59) = true := by simp only [bne, hs, Bool.not_false]
              go_wp2_with fail
              go_ret
              exact ⟨ret_int (by rw [HV.out, HV2.out, H59.out, hs]; rfl), rfl⟩
          · have h59 : semi l (i + 1 + k) = 0 := by simp [semi, atB, hl, hlt]
            have H59 := Lib.hid h59
            clear h59 hcell hl
            go_wp2_with fail
            go_ret
            exact ⟨ret_int (by rw [HV.out, HV2.out, H59.out]; rfl), rfl⟩
    | false =>
      have HX := Lib.hid hx
      clear hx
      go_upto_block 0 with fail
      go_cut [1, 11] (fun s1 s11 wx => ∃ k : Nat, k ≤ dec ∧ s1 = .int .i64 ((i + k : Nat) : Int) ∧ s11 = .int .i64 k ∧ brun digI l i dec = i + k ∧ wx = wc)
      case first =>
        go_wp2_with fail
        go_loop [1, 11] (fun s1 s11 => ∃ k : Nat, k ≤ dec ∧ k ≤ dec + n ∧ s1 = .int .i64 ((i + k : Nat) : Int) ∧ s11 = .int .i64 k ∧ run digI l i = run digI l (i + k)) (fun _ s11 => dec - (intOf s11).toNat)
        case atStart => exact ⟨0, Nat.zero_le _, Nat.zero_le _, by go_num, rfl, rfl⟩
        case round =>
          obtain ⟨k, hkm, _, rfl, rfl, hr⟩ := hrel
          have HR := Lib.hid hr
          clear hr
          by_cases hlt : i + k < n
          · by_cases hm : k < dec
            · obtain ⟨b, o, rfl, c1⟩ := hcell (i + k) hlt
              have HL := Lib.hid hl
              clear hcell
              cases hp : digI (bat l (i + k)) with
              | true =>
                have HP := Lib.hid hp
                go_wp2_with (go_at_call 43; refine (isdigit_any _ _).mono ?_; rintro e w' ⟨rfl, rfl⟩)
                go_round
                case rel => exact ⟨k + 1, by omega, by omega, by go_num, by go_num, by rw [HR.out, run_step (by rw [HL.out]; exact hlt) HP.out]; rfl⟩
                case measure => simp [intOf]; omega
              | false =>
                have HP := Lib.hid hp
                go_wp2_with (go_at_call 43; refine (isdigit_any _ _).mono ?_; rintro e w' ⟨rfl, rfl⟩)
                go_meet
                exact ⟨k, by omega, by go_num, rfl, brun_stop HR.out hkm (Or.inr (Or.inr HP.out)), rfl⟩
            · have hkm2 : k = dec := by omega
              have HK := Lib.hid hkm2
              clear hkm2
              go_wp2_with fail
              go_meet
              exact ⟨k, hkm, by go_num, rfl, brun_stop HR.out hkm (Or.inl HK.out), rfl⟩
          · go_wp2_with fail
            go_meet
            exact ⟨k, hkm, by go_num, rfl, brun_stop HR.out hkm (Or.inr (Or.inl (by omega))), rfl⟩
      case rest =>
        rename_i w0
        obtain ⟨k, hkm, rfl, rfl, hb, rfl⟩ := hcut
        have hv : ((numR l i dec hex : Nat) : Int) = (numB l i digI dec : Int) := by rw [numR, HX.out]; rfl
        have HV := Lib.hid hv
        have HB := Lib.hid hb
        clear hv hb
        by_cases hk0 : k = 0
        · subst hk0
          go_wp2_with fail
          go_ret
          exact ⟨ret_int (by rw [HV.out, numB, if_pos (by rw [HB.out]; try rfl)]; try rfl), rfl⟩
        · have hk0' : ((k : Int) == 0) = false := by simp; omega
          have hv2 : numB l i digI dec = semi l (i + k) := by rw [numB, HB.out, if_neg (by omega)]
          have HV2 := Lib.hid hv2
          clear hv2
          by_cases hlt : i + k < n
          · obtain ⟨b, o, rfl, c1⟩ := hcell (i + k) hlt
            have h59 : semi l (i + k) = if bat l (i + k) == 59 then i + k + 1 else 0 := by simp [semi, atB, hl, hlt]
            have H59 := Lib.hid h59
            clear h59 hcell hl
            cases hs : (bat l (i + k) == 59) with
            | true =>
              have hs' : (bat l (i + k) != 59) = false := by simp only [bne, hs, Bool.not_true]
              go_wp2_with fail
              go_ret
              exact ⟨ret_int (by rw [HV.out, HV2.out, H59.out, hs]; simp only [if_true]; omega), rfl⟩
            | false =>
              have hs' : (bat l (i + k) != 59) = true := by simp only [bne, hs, Bool.not_false]
              go_wp2_with fail
              go_ret
              exact ⟨ret_int (by rw [HV.out, HV2.out, H59.out, hs]; rfl), rfl⟩
          · have h59 : semi l (i + k) = 0 := by simp [semi, atB, hl, hlt]
            have H59 := Lib.hid h59
            clear h59 hcell hl
            go_wp2_with fail
            go_ret
            exact ⟨ret_int (by rw [HV.out, HV2.out, H59.out]; rfl), rfl⟩

end Go.Proofs.Ytkjbmekpcjfenaa
