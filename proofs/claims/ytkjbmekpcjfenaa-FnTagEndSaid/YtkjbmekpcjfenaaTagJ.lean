/- Tags: blackfriday.zzDeclarationEnd walked. Condition: ASCII bytes; lengths are bounded. -/
import Derived.Test.YtkjbmekpcjfenaaTagI
namespace Go.Proofs.Ytkjbmekpcjfenaa
open Go.ChangeShapes Go.WideShapes Go.ChangeAt Go.RowKit

/-- the beginning of a CDATA section, in small letters -/
def cdata : List UInt8 := [60, 33, 91, 99, 100, 97, 116, 97, 91]
theorem cdata_str : (⟨#[60, 33, 91, 99, 100, 97, 116, 97, 91]⟩ : ByteArray) = str cdata := rfl
theorem folded_cdata (l : List UInt8) (h : 9 ≤ l.length) : ((l.take 9).map lowU == cdata) = folded l cdata := by
  rw [Bool.eq_iff_iff, beq_iff_eq, folded, decide_eq_true_eq]
  constructor
  · intro e
    refine ⟨h, fun i hi => ?_⟩
    have hi' : i < 9 := hi
    rw [← bat_take l 9 i hi', ← bat_low _ i (by rw [List.length_take]; omega), e]
  · rintro ⟨_, hb⟩
    refine bat_ext (by rw [List.length_map, List.length_take]; show min 9 l.length = 9; omega) fun i hi => ?_
    have hi' : i < 9 := hi
    rw [bat_low _ i (by rw [List.length_take]; omega), bat_take l 9 i hi']
    exact hb i hi
def cdF (o : Option Nat) : Nat := match o with
  | some k => k + 3
  | none => 0
/-- the end of a declaration behind its sign (0: none) -/
def decT (l : List UInt8) (k : Nat) : Nat := if run (neI 62) l k < l.length then run (neI 62) l k + 1 else 0
def decL (l : List UInt8) : Nat := if run lettI l 2 = 2 then 0 else if run lettI l 2 < l.length ∧ blkI (bat l (run lettI l 2)) = true then decT l (run lettI l 2) else 0
def isCom (l : List UInt8) : Bool := decide (4 ≤ l.length) && bat l 2 == 45 && bat l 3 == 45
def decl (l : List UInt8) : Nat := if isCom l then com l else if folded l cdata then cdF (fnd l [93, 93, 62] (l.length + 1) 9) else decL l

set_option maxHeartbeats 2000000 in
set_option maxRecDepth 100000 in
theorem zzDecl_any (p : Option Addr) (n c : Nat) (l : List UInt8) (w : World) (h : Bs w p n l) (hnc : n ≤ c) (hcm : c ≤ maxLen) (hn : n ≤ 1000000) (h3 : 3 ≤ n) (ha : ∀ k, bat l k < 128) :
    Calls Try.prog 36 #[.slice p n c] w fun e w' => e = .returned (.int .i64 (decl l)) ∧ Below w.heap.size w w' := by
  obtain ⟨b, o, rfl, hbl, hc⟩ := h.cells (by omega)
  have HL := Lib.hid h.len
  have HA := Lib.hid ha
  have HC : Hid (∀ wx, Below w.heap.size w wx → ∀ k, k < n → wx.cell? ⟨b, o + k, none⟩ = some (.int .u8 (bat l k))) := Lib.hid (fun wx hb k hk => by
    rw [hb.cell (p := ⟨b, o + k, none⟩) hbl]
    exact hc k hk)
  clear hc ha
  have hcm' : c ≤ 2 ^ 63 - 1 := hcm
  go_enter Try.func36, Try.ntmps36
  go_upto_region 1 with fail
  go_cut [21] (fun s wx => s = .bool (isCom l) ∧ wx = w)
  case first =>
    by_cases h4 : 4 ≤ n
    · have c2 := HC.out w (Below.refl _ _) 2 (by omega)
      have c3 := HC.out w (Below.refl _ _) 3 (by omega)
      have hv : isCom l = (bat l 2 == 45 && bat l 3 == 45) := by rw [isCom, HL.out]; simp [h4]
      have HV := Lib.hid hv
      clear hv
      cases e2 : (bat l 2 == 45) with
      | false =>
        go_wp2_with fail
        go_meet
        exact ⟨by rw [HV.out, e2]; rfl, rfl⟩
      | true =>
        go_wp2_with fail
        go_meet
        exact ⟨by rw [HV.out, e2]; rfl, rfl⟩
    · have hv : isCom l = false := by rw [isCom, HL.out]; simp [h4]
      have HV := Lib.hid hv
      clear hv
      go_wp2_with fail
      go_meet
      exact ⟨by rw [HV.out], rfl⟩
  case rest =>
    obtain ⟨rfl, rfl⟩ := hcut
    cases hic : isCom l with
    | true =>
      have hv : decl l = com l := by rw [decl, hic]; rfl
      have HV := Lib.hid hv
      have h4 : 4 ≤ n := by
        simp only [isCom, Bool.and_eq_true, decide_eq_true_eq] at hic
        have := hic.1.1
        rw [HL.out] at this
        exact this
      clear hv
      go_wp2_with fail
      refine (zzCommentEnd_any _ n c l _ h hn h4).mono ?_
      rintro e w' ⟨rfl, rfl⟩
      go_wp2_with fail
      go_ret
      exact ⟨ret_int (by rw [HV.out]), Below.refl _ _⟩
    | false =>
      have hv : decl l = if folded l cdata then cdF (fnd l [93, 93, 62] (l.length + 1) 9) else decL l := by rw [decl, hic]; rfl
      have HV := Lib.hid hv
      clear hv hic
      go_upto_region 4 with fail
      go_cut [38] (fun s wx => s = .bool (folded l cdata) ∧ Below wc.heap.size wc wx)
      case first =>
        by_cases h9 : 9 ≤ n
        · have ht := h.take 9 h9
          have hlow := zzLower_any (some ⟨b, o, none⟩) 9 c (l.take 9) wc ht (by omega) (by omega)
          have hfe := folded_cdata l (by rw [HL.out]; exact h9)
          have HFE := Lib.hid hfe
          have HLow := Lib.hid hlow
          clear hfe hlow
          go_wp2_with fail
          refine HLow.out.mono ?_
          rintro e w1 ⟨rfl, hbs, hb1⟩
          have hcv := hbs.convert 9
          go_wp2_with fail
          go_meet
          refine ⟨?_, hb1⟩
          rw [← HFE.out, List.map_take, str_toList]
          rfl
        · have hfe : folded l cdata = false := decide_eq_false (fun e => by have := e.1; rw [HL.out] at this; have : cdata.length = 9 := rfl; omega)
          have HFE := Lib.hid hfe
          clear hfe
          go_wp2_with fail
          go_meet
          exact ⟨by rw [HFE.out], Below.refl _ _⟩
      case rest =>
        rename_i w0
        obtain ⟨rfl, hbw⟩ := hcut
        have hx := h.below hbw (Nat.le_refl _)
        have hcell := HC.out wc hbw
        cases hfo : folded l cdata with
        | true =>
          obtain ⟨R, hR⟩ : ∃ R, R = fnd l [93, 93, 62] (l.length + 1) 9 := ⟨_, rfl⟩
          have hv2 : decl l = cdF R := by rw [HV.out, hfo, hR]; rfl
          have HV2 := Lib.hid hv2
          have HR0 := Lib.hid hR
          have HCell := Lib.hid hcell
          clear hv2 hR hcell
          go_wp2_with fail
          go_loopg [4] (n + 1) (fun gf t wx => ∃ k : Nat, t = .int .i64 k ∧ R = fnd l [93, 93, 62] gf k ∧ n + 1 ≤ k + gf ∧ k ≤ 2000000 ∧ wx = wc)
          case atStart => exact ⟨9, rfl, by rw [HR0.out, HL.out], by omega, by omega, rfl⟩
          case round =>
            obtain ⟨k, rfl, hr, hg, hk, rfl⟩ := hrel
            have HR := Lib.hid hr
            clear hr
            by_cases hle : k + 2 < n
            · obtain ⟨g', rfl⟩ : ∃ g', gk = g' + 1 := ⟨gk - 1, by omega⟩
              have c0 := HCell.out k (by omega)
              have c1 := HCell.out (k + 1) (by omega)
              have c2 := HCell.out (k + 2) hle
              have hst : fnd l [93, 93, 62] (g' + 1) k = if (bat l k == 93 && bat l (k + 1) == 93 && bat l (k + 2) == 62) then some k else fnd l [93, 93, 62] g' (k + 1) := by
                rw [fnd, if_pos (by rw [HL.out]; simp; omega), begins_three l k 93 93 62 (by rw [HL.out]; omega)]
                rfl
              have HST := Lib.hid hst
              clear hst
              cases e0 : (bat l k == 93) with
              | false =>
                have HF : Hid (R = fnd l [93, 93, 62] g' (k + 1)) := Lib.hid (by rw [HR.out, HST.out, e0]; rfl)
                go_wp2_with fail
                go_roundg g'
                case measure => omega
                case rel => exact ⟨k + 1, by go_num, HF.out, by omega, by omega, rfl⟩
              | true =>
                cases e1 : (bat l (k + 1) == 93) with
                | false =>
                  have HF : Hid (R = fnd l [93, 93, 62] g' (k + 1)) := Lib.hid (by rw [HR.out, HST.out, e0, e1]; rfl)
                  go_wp2_with fail
                  go_roundg g'
                  case measure => omega
                  case rel => exact ⟨k + 1, by go_num, HF.out, by omega, by omega, rfl⟩
                | true =>
                  cases e2 : (bat l (k + 2) == 62) with
                  | false =>
                    have HF : Hid (R = fnd l [93, 93, 62] g' (k + 1)) := Lib.hid (by rw [HR.out, HST.out, e0, e1, e2]; rfl)
                    go_wp2_with fail
                    go_roundg g'
                    case measure => omega
                    case rel => exact ⟨k + 1, by go_num, HF.out, by omega, by omega, rfl⟩
                  | true =>
                    have HF : Hid (decl l = k + 3) := Lib.hid (by rw [HV2.out, HR.out, HST.out, e0, e1, e2]; rfl)
                    go_wp2_with fail
                    go_ret
                    exact ⟨ret_int (by rw [HF.out]; rfl), hbw⟩
            · have hfin : decl l = 0 := by rw [HV2.out, HR.out, fnd_out _ _ _ _ (by rw [HL.out]; simp; omega)]; rfl
              have HF := Lib.hid hfin
              clear hfin
              go_wp2_with fail
              go_ret
              exact ⟨ret_int (by rw [HF.out]; rfl), hbw⟩
        | false =>
          have hv2 : decl l = decL l := by rw [HV.out, hfo]; rfl
          have HV2 := Lib.hid hv2
          have HCell := Lib.hid hcell
          clear hv2 hcell
          obtain ⟨K, hK⟩ : ∃ K, K = run lettI l 2 := ⟨_, rfl⟩
          have hK1 := le_run lettI l 2
          have hK2 := run_le lettI l 2 (by rw [HL.out]; omega)
          rw [← hK] at hK1 hK2
          rw [HL.out] at hK2
          have hv3 : decl l = if K = 2 then 0 else if K < l.length ∧ blkI (bat l K) = true then decT l K else 0 := by rw [HV2.out, decL, ← hK]
          have HV3 := Lib.hid hv3
          have HK := Lib.hid hK
          clear hv3 hK
          go_wp2_with fail
          refine (zzLetter_any _ n c l 2 _ _ hx rfl hn (by omega) HA.out).mono ?_
          rintro e w' ⟨rfl, rfl⟩
          go_wp2_with fail
          go_loop [5, 6] (fun t u => ∃ k : Nat, k ≤ n ∧ t = .int .i64 k ∧ u = .int .i64 (letN l k) ∧ run lettI l 2 = run lettI l k) (fun t _ => n - (intOf t).toNat)
          case atStart => exact ⟨2, by omega, rfl, rfl, rfl⟩
          case round =>
            obtain ⟨k, hkn, rfl, rfl, hr⟩ := hrel
            have HR := Lib.hid hr
            clear hr
            by_cases hl0 : letN l k = 0
            · have hKk : K = k := by
                rw [HK.out, HR.out]
                by_cases hlt : k < l.length
                · have : lettI (bat l k) = false := by
                    rw [letN_eq hlt] at hl0
                    cases hb : lettI (bat l k)
                    · rfl
                    · rw [hb] at hl0; cases hl0
                  exact run_stop this
                · exact run_end (by omega)
              have hv4 : decl l = if k = 2 then 0 else if k < l.length ∧ blkI (bat l k) = true then decT l k else 0 := by rw [HV3.out, hKk]
              have HV4 := Lib.hid hv4
              rw [hl0]
              clear hKk hv4 hl0 hK1 hK2
              by_cases hk2 : k = 2
              · have hd : ((k : Int) == 2) = true := by simp; omega
                have hv5 : decl l = 0 := by rw [HV4.out, if_pos hk2]
                have HV5 := Lib.hid hv5
                clear hv5 hk2
                go_wp2_with fail
                go_ret
                exact ⟨ret_int (by rw [HV5.out]; rfl), hbw⟩
              · have hd : ((k : Int) == 2) = false := by simp; omega
                by_cases hlt : k < n
                · have ck := HCell.out k hlt
                  have hdn : decide (n ≤ k) = false := by simp; omega
                  cases hb : blkI (bat l k) with
                  | false =>
                    have hv5 : decl l = 0 := by rw [HV4.out, if_neg hk2, if_neg (by rw [hb]; simp)]
                    have HV5 := Lib.hid hv5
                    clear hv5 hk2
                    go_wp2_with (go_at_call 45; refine (zzBlank_any _ _).mono ?_; rintro e w' ⟨rfl, rfl⟩)
                    go_ret
                    exact ⟨ret_int (by rw [HV5.out]; rfl), hbw⟩
                  | true =>
                    have hv5 : decl l = decT l k := by rw [HV4.out, if_neg hk2, if_pos ⟨by rw [HL.out]; exact hlt, hb⟩]
                    have HV5 := Lib.hid hv5
                    clear hv5 hk2
                    go_wp2_with (go_at_call 45; refine (zzBlank_any _ _).mono ?_; rintro e w' ⟨rfl, rfl⟩)
                    go_loop [5] (fun t => ∃ m : Nat, m ≤ n ∧ t = .int .i64 m ∧ run (neI 62) l k = run (neI 62) l m) (fun t => n - (intOf t).toNat)
                    case atStart => exact ⟨k, by omega, rfl, rfl⟩
                    case round =>
                      obtain ⟨m, hmn, rfl, hr⟩ := hrel
                      have HR2 := Lib.hid hr
                      clear hr
                      by_cases hmlt : m < n
                      · have cm := HCell.out m hmlt
                        cases he : (bat l m == 62) with
                        | true =>
                          have HP : Hid (neI 62 (bat l m) = false) := Lib.hid (by simp only [neI, bne, he, Bool.not_true])
                          have hv6 : decl l = m + 1 := by rw [HV5.out, decT, HR2.out, run_stop HP.out, if_pos (by rw [HL.out]; exact hmlt)]
                          have HV6 := Lib.hid hv6
                          clear hv6
                          go_wp2_with fail
                          go_ret
                          exact ⟨ret_int (by rw [HV6.out]; rfl), hbw⟩
                        | false =>
                          have HP : Hid (neI 62 (bat l m) = true) := Lib.hid (by simp only [neI, bne, he, Bool.not_false])
                          go_wp2_with fail
                          go_round
                          case rel => exact ⟨m + 1, by omega, by go_num, by rw [HR2.out, run_step (by rw [HL.out]; exact hmlt) HP.out]⟩
                          case measure => simp [intOf]; omega
                      · have hv6 : decl l = 0 := by rw [HV5.out, decT, HR2.out, run_end (by rw [HL.out]; omega), if_neg (by rw [HL.out]; omega)]
                        have HV6 := Lib.hid hv6
                        clear hv6
                        go_wp2_with fail
                        go_ret
                        exact ⟨ret_int (by rw [HV6.out]; rfl), hbw⟩
                · have hv5 : decl l = 0 := by rw [HV4.out, if_neg hk2, if_neg (by rw [HL.out]; omega)]
                  have HV5 := Lib.hid hv5
                  clear hv5 hk2
                  go_wp2_with fail
                  go_ret
                  exact ⟨ret_int (by rw [HV5.out]; rfl), hbw⟩
            · obtain ⟨hlt, hle⟩ := letN_yes hl0
              have h1 : letN l k = 1 := by rw [letN_eq hlt, if_pos hle]
              have HR2 : Hid (run lettI l 2 = run lettI l (k + 1)) := Lib.hid (by rw [HR.out, run_step hlt hle])
              have hlt2 : k < n := by rw [HL.out] at hlt; exact hlt
              rw [h1]
              clear hl0 hlt hle h1
              go_wp2_with fail
              refine (zzLetter_any _ n c l (k + 1) _ _ hx (by omega) hn (by omega) HA.out).mono ?_
              rintro e w' ⟨rfl, rfl⟩
              go_wp2_with fail
              go_round
              case rel => exact ⟨k + 1, by omega, by go_num, rfl, HR2.out⟩
              case measure => simp [intOf]; omega

end Go.Proofs.Ytkjbmekpcjfenaa
