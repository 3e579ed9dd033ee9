/- Fences: spec.FenceLine walked. Condition: the text ends its first line with a line feed. -/
import Derived.Test.YtcpkkmpckdcbjaaDoorFenD
import Derived.Deep.QuietTactic
namespace Go.Proofs.YtcpkkmpckdcbjaaDoor
open Go.ChangeShapes Go.WideShapes Go.ChangeAt Go.RowKit

theorem FL.run_nl {l : List UInt8} {L : Nat} (h : FL l L) : run (neI 10) l 0 = L := by
  have hm : ∀ d i, L - i = d → i ≤ L → run (neI 10) l i = L := by
    intro d
    induction d with
    | zero =>
      intro i hd hi
      have e : i = L := by omega
      rw [e, run_stop (by rw [h.nl]; rfl)]
    | succ d ih =>
      intro i hd hi
      have hlt := h.lt
      rw [run_step (by omega) (by have := h.non i (by omega); simp [neI, this])]
      exact ih (i + 1) (by omega) (by omega)
  exact hm L 0 (by omega) (Nat.zero_le _)

/-- the results of spec.FenceLine -/
def specOut (L : Nat) : Option (List UInt8 × List UInt8) → Ending
  | none => .returned (.tuple #[.int .i64 0, .string ⟨#[]⟩, .string ⟨#[]⟩])
  | some r => .returned (.tuple #[.int .i64 ((L + 1 : Nat) : Int), .string (str r.1), .string (str r.2)])
def specSaid (w : World) (L : Nat) (r : Option (List UInt8 × List UInt8)) (e : Ending) (w' : World) : Prop := e = specOut L r ∧ ∃ m, w' = w.drewN m

/-- the bytes of a list stand in memory from a place on -/
def At (w : World) (b o : Nat) (l : List UInt8) : Prop := ∀ i, i < l.length → w.cell? ⟨b, o + i, none⟩ = some (.int .u8 (bat l i))

set_option maxHeartbeats 8000000 in
set_option maxRecDepth 100000 in
theorem specFence_any (p : Option Addr) (n c L : Nat) (l : List UInt8) (ask : Bool) (mk : ByteArray) (ml : List UInt8) (w : World) (h : Bs w p n l) (hc : n ≤ c) (hcm : c ≤ maxLen) (hF : FL l L) (hm : Str mk ml) (hml : ml.length ≤ 1000000) :
    Calls Tryd.prog 7 #[.slice p n c, .bool ask, .string mk] w (specSaid w L (fence (l.take L) ask ml)) := by
  have hn := h.len
  have hlt := hF.lt
  have hle := hF.len
  have HE := Lib.hid (lineEnd_any p n c l w h (by omega))
  rw [hF.run_nl] at HE
  have hD := h.take L (by omega)
  have HBl := Lib.hid (blanks_any p L c (l.take L) 3 w hD (by omega) (by decide))
  obtain ⟨D, hDe⟩ : ∃ D, D = l.take L := ⟨_, rfl⟩
  rw [← hDe] at hD HBl ⊢
  obtain ⟨i0, hi0⟩ : ∃ i0, i0 = lead 3 D := ⟨_, rfl⟩
  have hi0L : i0 ≤ L := by rw [hi0]; have := lead_len 3 D; rw [hD.len] at this; exact this
  rw [← hi0] at HBl
  obtain ⟨b, o, rfl, hb, hcell⟩ := h.cells (by omega)
  have hDl := hD.len
  obtain ⟨m, hm0⟩ : ∃ m, L = i0 + m := ⟨L - i0, by omega⟩
  obtain ⟨E, hE⟩ : ∃ E, E = D.drop i0 := ⟨_, rfl⟩
  have hEl : E.length = m := by rw [hE, List.length_drop]; omega
  have hAt : At w b (o + i0) E := by
    intro i hi
    have h1 := hcell (i0 + i) (by omega)
    rw [Nat.add_assoc, h1]
    have : i0 + i < L := by omega
    rw [hE, hDe]
    simp [bat, List.getElem?_take, this]
  have hEb : ∀ i, i < m → bat E i = bat D (i0 + i) := fun i hi => by rw [hE]; simp [bat]
  have HM := Lib.hid hm
  have HA := Lib.hid hAt
  have HEb := Lib.hid hEb
  have HI0 := Lib.hid hi0
  have HDl := Lib.hid hDl
  have HEe := Lib.hid hE
  have hci : ¬ c = i0 := by omega
  subst hm0
  clear h hF hm hcell hD hDe hi0 hDl hE hAt hEb
  go_enter Tryd.func7, Tryd.ntmps7
  go_wp2_with fail
  refine HE.out.mono ?_
  rintro e w1 ⟨rfl, rfl⟩
  clear HE
  go_wp2_with fail
  refine HBl.out.mono ?_
  rintro e w1 ⟨rfl, rfl⟩
  clear HBl
  by_cases hm0 : m = 0
  · have HV := Lib.hid (fence_short (D := D) (ask := ask) (ml := ml) (by rw [← HI0.out, HDl.out]; omega))
    subst hm0
    go_wp2_with fail
    go_ret3
    exact ⟨by rw [HV.out]; rfl, 0, rfl⟩
  · obtain ⟨ch, hch⟩ : ∃ ch, ch = bat E 0 := ⟨_, rfl⟩
    have c0 := HA.out 0 (by omega)
    rw [← hch] at c0
    simp only [Nat.add_zero] at c0
    have hch0 := bat_nonneg E 0
    have hch1 := bat_lt E 0
    rw [← hch] at hch0 hch1
    have hbt : bat D i0 = ch := by rw [hch, HEb.out 0 (by omega)]; rfl
    have HBt := Lib.hid hbt
    have HCh := Lib.hid hch
    have hmz : ((m : Int) == 0) = false := by simpa using hm0
    clear hch hbt
    go_upto_region 4 with fail
    go_cut [36] (fun s wx => s = .bool (!(ch == 126 || ch == 96)) ∧ wx = w)
    case first =>
      cases h1 : (ch == 126) with
      | true =>
        have h1' : (ch != 126) = false := by simp only [bne, h1, Bool.not_true]
        go_wp2_with fail
        go_meet
        exact ⟨by rw [h1]; rfl, rfl⟩
      | false =>
        have h1' : (ch != 126) = true := by simp only [bne, h1, Bool.not_false]
        go_wp2_with fail
        go_meet
        exact ⟨by rw [h1]; rfl, rfl⟩
    case rest =>
      obtain ⟨rfl, rfl⟩ := hcut
      cases hB : (ch == 126 || ch == 96) with
      | false =>
        have HV := Lib.hid (fence_no (D := D) (ask := ask) (ml := ml) (by rw [← HI0.out, HBt.out]; exact hB))
        clear hB
        go_wp2_with fail
        go_ret3
        exact ⟨by rw [HV.out]; rfl, 0, rfl⟩
      | true =>
        have HY := Lib.hid hB
        clear hB
        go_upto_block 0 with fail
        go_cut [11] (fun s wx => ∃ k dr : Nat, s = .int .i64 k ∧ k ≤ m ∧ run (eqI ch) D i0 = i0 + k ∧ wx = wc.drewN dr)
        case first =>
          go_wp2_with fail
          go_loopg [11] m (fun gf s wx => ∃ k dr : Nat, gf = m - k ∧ k ≤ m ∧ s = .int .i64 k ∧ run (eqI ch) D i0 = run (eqI ch) D (i0 + k) ∧ wx = wc.drewN dr)
          case atStart => exact ⟨0, 0, rfl, Nat.zero_le _, rfl, rfl, rfl⟩
          case round =>
            obtain ⟨k, dr, rfl, hk, rfl, hr, rfl⟩ := hrel
            have HR := Lib.hid hr
            clear hr
            by_cases hkm : k < m
            · have ck := HA.out k (by omega)
              have hbk := HEb.out k hkm
              by_cases heq : bat E k = ch
              · have HZ := Lib.hid (heq ▸ hbk : ch = bat D (i0 + k))
                rw [heq] at ck
                clear heq hbk
                go_wp2_with fail
                go_quiet (fail)
                go_wp2_with fail
                go_roundg (m - (k + 1))
                case measure => omega
                case rel => exact ⟨k + 1, dr + nq, rfl, by omega, by go_num, by rw [HR.out, run_step (by rw [HDl.out]; omega) (by rw [← HZ.out]; simp [eqI])]; rfl, by simp⟩
              · have heq' : (bat E k == ch) = false := by simpa using heq
                have HZ := Lib.hid (show eqI ch (bat D (i0 + k)) = false by rw [← hbk]; exact heq')
                clear heq hbk
                go_wp2_with fail
                go_quiet (fail)
                go_wp2_with fail
                go_meet
                exact ⟨k, dr + nq, rfl, hk, by rw [HR.out, run_stop HZ.out], by simp⟩
            · have hke : k = m := by omega
              have hkd : decide ((k : Int) < (m : Int)) = false := decide_eq_false (by omega)
              have hkd2 : decide (k < m) = false := decide_eq_false (by omega)
              go_wp2_with fail
              go_quiet (fail)
              go_wp2_with fail
              go_meet
              exact ⟨k, dr + nq, rfl, hk, by rw [HR.out, run_end (by rw [HDl.out]; omega)], by simp⟩
        case rest =>
          obtain ⟨k, dr, rfl, hkm, hk, rfl⟩ := hcut
          have hrunD : run (eqI (bat D (lead 3 D))) D (lead 3 D) = i0 + k := by rw [← HI0.out, HBt.out]; exact hk
          have HRun := Lib.hid hrunD
          obtain ⟨mark, hmark⟩ : ∃ mark, mark = E.take k := ⟨_, rfl⟩
          have hmarkD : (D.take (i0 + k)).drop i0 = mark := by
            rw [hmark, HEe.out, List.drop_take]
            congr 1
            omega
          have hbsM : Bs (wc.drewN dr) (some ⟨b, o + i0, none⟩) k mark := by
            refine ⟨by rw [hmark, List.length_take]; omega, fun _ => ⟨b, o + i0, rfl, hb, fun i hi => ?_⟩⟩
            have := HA.out i (by omega)
            have e : bat mark i = bat E i := by rw [hmark]; simp [bat, List.getElem?_take, hi]
            rw [e]
            exact this
          have hconv := hbsM.convert c
          have hconv2 := hbsM.convert (c - i0)
          have HMk := Lib.hid hmarkD
          clear hk hrunD hmark hmarkD hbsM
          go_upto_region 10 with fail
          go_cut [67] (fun s wx => s = .bool (decide (k < 3) || decide (ml ≠ [] ∧ mark ≠ ml)) ∧ wx = wc.drewN dr)
          case first =>
            by_cases hk3 : k < 3
            · have HZ := Lib.hid hk3
              have hk3d : decide ((k : Int) < 3) = true := decide_eq_true (by omega)
              go_wp2_with fail
              go_meet
              refine ⟨?_, rfl⟩
              rw [decide_eq_true HZ.out]
              rfl
            · have hmt : mk.toList = ml := by rw [Lib.toList_data]; exact HM.out
              have HK3 := Lib.hid hk3
              have hk3d : decide ((k : Int) < 3) = false := decide_eq_false (by omega)
              by_cases hme : ml = []
              · have HZ := Lib.hid hme
                rw [hme] at hmt
                clear hme
                go_wp2_with fail
                go_meet
                refine ⟨?_, rfl⟩
                rw [HZ.out, decide_eq_false HK3.out]
                rfl
              · have h1 : mk.toList.isEmpty = false := by rw [hmt]; simpa using hme
                have h2 : ¬ mk.toList = [] := by rw [hmt]; exact hme
                have hst := str_toList mark
                by_cases heq : mark = ml
                · have h3 : ((str mark).toList == mk.toList) = true := by rw [hst, hmt, heq]; simp
                  have HZ := Lib.hid (And.intro hme heq)
                  clear heq hme hmt hst
                  go_wp2_with fail
                  go_meet
                  refine ⟨?_, rfl⟩
                  rw [HZ.out.2, decide_eq_false HK3.out]
                  simp
                · have h3 : ((str mark).toList == mk.toList) = false := by rw [hst, hmt]; simpa using heq
                  have HZ := Lib.hid (And.intro hme heq)
                  clear heq hme hmt hst
                  go_wp2_with fail
                  go_meet
                  refine ⟨?_, rfl⟩
                  have := HZ.out
                  simp [this.1, this.2]
          case rest =>
            obtain ⟨rfl, rfl⟩ := hcut
            by_cases hk3 : k < 3
            · have hd : (decide (k < 3) || decide (ml ≠ [] ∧ mark ≠ ml)) = true := by simp [hk3]
              rw [hd]
              have HV := Lib.hid (fence_few (D := D) (ask := ask) (ml := ml) (by rw [HRun.out, ← HI0.out]; omega))
              clear hd
              go_wp2_with fail
              go_ret3
              exact ⟨by rw [HV.out]; rfl, _, rfl⟩
            · by_cases hbad : ml ≠ [] ∧ mark ≠ ml
              · have hd : (decide (k < 3) || decide (ml ≠ [] ∧ mark ≠ ml)) = true := by simp [hbad]
                rw [hd]
                have HV := Lib.hid (fence_other (D := D) (ask := ask) (ml := ml) (by rw [HRun.out, ← HI0.out, HMk.out]; exact hbad))
                clear hd hbad
                go_wp2_with fail
                go_ret3
                exact ⟨by rw [HV.out]; rfl, _, rfl⟩
              · have hd : (decide (k < 3) || decide (ml ≠ [] ∧ mark ≠ ml)) = false := by rw [decide_eq_false hk3, decide_eq_false hbad]; rfl
                rw [hd]
                have hyes := fence_yes (D := D) (ask := ask) (ml := ml) (by rw [← HI0.out, HDl.out]; omega) (by rw [← HI0.out, HBt.out]; exact HY.out) (by rw [HRun.out, ← HI0.out]; omega) (by rw [HRun.out, ← HI0.out, HMk.out]; exact hbad)
                rw [HRun.out, ← HI0.out, HMk.out, HDl.out] at hyes
                have HYes := Lib.hid hyes
                clear hbad hd hyes
                have hck : ¬ c - i0 = k := by omega
                cases ask with
                | false =>
                  by_cases hend : k < m
                  · have HV := Lib.hid (show fence D false ml = none by rw [HYes.out]; simp [hend])
                    go_wp2_with fail
                    go_ret3
                    exact ⟨by rw [HV.out]; rfl, _, rfl⟩
                  · have hke : k = m := by omega
                    subst hke
                    have HV := Lib.hid (show fence D false ml = some (mark, []) by rw [HYes.out]; simp)
                    go_wp2_with fail
                    go_ret3
                    exact ⟨by rw [HV.out]; exact congrArg Ending.returned (by congr 2), _, rfl⟩
                | true =>
                  have HV := Lib.hid (show fence D true ml = some (mark, trimR blankI (trimL blankI (E.drop k))) by
                    rw [HYes.out]
                    simp only [Bool.true_eq_false, if_false, Option.some.injEq, Prod.mk.injEq, true_and]
                    rw [HEe.out, List.drop_drop]
                    rfl)
                  go_upto_block 2 with fail
                  go_cut [12] (fun s wx => ∃ (X : List UInt8) (o' c' : Nat), s = .slice (some ⟨b, o', none⟩) X.length c' ∧ X.length ≤ 1000 ∧ X.length < c' ∧ c' ≤ maxLen ∧ At wc b o' X ∧ trimL blankI (E.drop k) = X ∧ wx = wc.drewN dr)
                  case first =>
                    go_wp2_with fail
                    go_loopg [12] (m - k) (fun gf s wx => ∃ (R : List UInt8) (o' c' : Nat), s = .slice (some ⟨b, o', none⟩) R.length c' ∧ gf = R.length ∧ R.length ≤ 1000 ∧ R.length < c' ∧ c' ≤ maxLen ∧ At wc b o' R ∧ trimL blankI (E.drop k) = trimL blankI R ∧ wx = wc.drewN dr)
                    case atStart =>
                      refine ⟨E.drop k, o + i0 + k, c - i0 - k, by rw [List.length_drop, hEl], by rw [List.length_drop, hEl], by rw [List.length_drop]; omega, by rw [List.length_drop]; omega, by omega, fun i hi => ?_, rfl, rfl⟩
                      rw [List.length_drop] at hi
                      have := HA.out (k + i) (by omega)
                      have e : bat (E.drop k) i = bat E (k + i) := by simp [bat]
                      rw [e, ← this]
                      congr 2
                      omega
                    case round =>
                      obtain ⟨R, o', c', rfl, rfl, hRl, hRc, hcm', hAt, htr, rfl⟩ := hrel
                      cases R with
                      | nil =>
                        have HT := Lib.hid htr
                        have HAt := Lib.hid hAt
                        clear htr hAt
                        go_wp2_with fail
                        go_meet
                        exact ⟨[], o', c', rfl, hRl, hRc, hcm', HAt.out, HT.out, rfl⟩
                      | cons x R =>
                        have HT := Lib.hid htr
                        have HAt := Lib.hid hAt
                        simp only [List.length_cons] at hRl hRc
                        have cx : (wc.drewN dr).cell? ⟨b, o', none⟩ = some (.int .u8 (x.toNat : Nat)) := hAt 0 (by simp)
                        have hc1 : ¬ c' = 1 := by omega
                        clear htr hAt
                        cases hbl : blankI (x.toNat : Int) with
                        | true =>
                          have HZ := Lib.hid hbl
                          go_wp2_with (go_at_call 13; refine (blank_any _ _).mono ?_; rintro ee w1 ⟨rfl, rfl⟩)
                          go_roundg R.length
                          case measure => simp
                          case rel =>
                            refine ⟨R, o' + 1, c' - 1, rfl, rfl, by omega, by omega, by omega, fun i hi => ?_, by rw [HT.out]; exact trimL_step HZ.out, rfl⟩
                            have := HAt.out (i + 1) (by simp; omega)
                            have e : bat (x :: R) (i + 1) = bat R i := by simp [bat]
                            rw [e] at this
                            rw [← this]
                            congr 2
                            omega
                        | false =>
                          have HZ := Lib.hid hbl
                          go_wp2_with (go_at_call 13; refine (blank_any _ _).mono ?_; rintro ee w1 ⟨rfl, rfl⟩)
                          go_meet
                          exact ⟨x :: R, o', c', rfl, by simp; omega, by simp; omega, hcm', HAt.out, by rw [HT.out]; exact trimL_stop HZ.out, rfl⟩
                  case rest =>
                    obtain ⟨X, o', c', rfl, hXl, hXc, hcm', hAt, htr, rfl⟩ := hcut
                    have HT := Lib.hid htr
                    have HAt := Lib.hid hAt
                    clear htr hAt
                    go_upto_block 4 with fail
                    go_cut [12] (fun s wx => ∃ t : Nat, s = .slice (some ⟨b, o', none⟩) t c' ∧ t ≤ X.length ∧ trimR blankI X = X.take t ∧ wx = wc.drewN dr)
                    case first =>
                      go_wp2_with fail
                      go_loopg [12] X.length (fun gf s wx => ∃ t : Nat, s = .slice (some ⟨b, o', none⟩) t c' ∧ gf = t ∧ t ≤ X.length ∧ trimR blankI X = trimR blankI (X.take t) ∧ wx = wc.drewN dr)
                      case atStart => exact ⟨X.length, rfl, rfl, Nat.le_refl _, by rw [List.take_length], rfl⟩
                      case round =>
                        obtain ⟨t, rfl, rfl, ht, htr, rfl⟩ := hrel
                        have HR := Lib.hid htr
                        clear htr
                        cases gk with
                        | zero =>
                          go_wp2_with fail
                          go_meet
                          exact ⟨0, rfl, ht, HR.out, rfl⟩
                        | succ t =>
                          have cx := HAt.out t (by omega)
                          have cx2 : (wc.drewN dr).cell? ⟨b, o' + t, none⟩ = some (.int .u8 (bat X t)) := cx
                          cases hbl : blankI (bat X t) with
                          | true =>
                            have HZ := Lib.hid hbl
                            go_wp2_with (go_at_call 13; refine (blank_any _ _).mono ?_; rintro ee w1 ⟨rfl, rfl⟩)
                            go_roundg t
                            case measure => omega
                            case rel => exact ⟨t, rfl, rfl, by omega, by rw [HR.out]; exact trimR_at (by omega) HZ.out, rfl⟩
                          | false =>
                            have HZ := Lib.hid hbl
                            go_wp2_with (go_at_call 13; refine (blank_any _ _).mono ?_; rintro ee w1 ⟨rfl, rfl⟩)
                            go_meet
                            exact ⟨t + 1, rfl, ht, by rw [HR.out]; exact trimR_end (by omega) HZ.out, rfl⟩
                    case rest =>
                      obtain ⟨t, rfl, ht, htr, rfl⟩ := hcut
                      have hbsT : Bs (wc.drewN dr) (some ⟨b, o', none⟩) t (X.take t) := by
                        refine ⟨by rw [List.length_take]; omega, fun _ => ⟨b, o', rfl, hb, fun i hi => ?_⟩⟩
                        have := HAt.out i (by omega)
                        have e : bat (X.take t) i = bat X i := by simp [bat, List.getElem?_take, hi]
                        rw [e]
                        exact this
                      have hconvT := hbsT.convert c'
                      have HR := Lib.hid htr
                      clear htr hbsT
                      go_wp2_with fail
                      go_ret3
                      refine ⟨?_, _, rfl⟩
                      rw [HV.out, HT.out, HR.out]
                      exact congrArg Ending.returned (by congr 2)

end Go.Proofs.YtcpkkmpckdcbjaaDoor
