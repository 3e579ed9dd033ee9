/- Tags: blackfriday.zzTagEnd and spec.TagEnd walked to one model. Condition: ASCII bytes; lengths are bounded. -/
import Derived.Test.YtkjbmekpcjfenaaTagL
namespace Go.Proofs.Ytkjbmekpcjfenaa
open Go.ChangeShapes Go.WideShapes Go.ChangeAt Go.RowKit

/-- the end of an instruction (0: none) -/
def piF (l : List UInt8) (o : Option Nat) : Nat := match o with
  | some k => if k < run (neI 10) l 0 then k + 2 else 0
  | none => 0
def piE (l : List UInt8) : Nat := piF l (fnd l [63, 62] (l.length + 1) 2)
def clo (l : List UInt8) : Nat := if tname l 2 = 0 then 0 else if atB l (run blkI l (tname l 2)) 62 then run blkI l (tname l 2) + 1 else 0
def tagR (l : List UInt8) : Nat := if bat l 1 = 47 then clo l else if bat l 1 = 33 then bang l else if bat l 1 = 63 then piE l else openEnd l
/-- the end of the tag (0: none) -/
def tagE (l : List UInt8) : Nat := if l.length < 3 ∨ ¬ bat l 0 = 60 then 0 else tagR l

set_option maxHeartbeats 4000000 in
set_option maxRecDepth 100000 in
theorem specTagEnd_any (p : Option Addr) (n c : Nat) (l : List UInt8) (w : World) (h : Bs w p n l) (hnc : n ≤ c) (hcm : c ≤ maxLen) (hn : n ≤ 1000000) :
    Calls Try.prog 10 #[.slice p n c] w fun e w' => e = .returned (.int .i64 (tagE l)) ∧ Below w.heap.size w w' := by
  have HL := Lib.hid h.len
  by_cases h3 : 3 ≤ n
  · obtain ⟨b, o, rfl, hbl, hc⟩ := h.cells (by omega)
    have c0 : w.cell? ⟨b, o, none⟩ = some (.int .u8 (bat l 0)) := by simpa using hc 0 (by omega)
    have c1 := hc 1 (by omega)
    clear hc
    cases e60 : (bat l 0 == 60) with
    | false =>
      have n60 : (bat l 0 != 60) = true := by rw [bne, e60]; rfl
      have hv : tagE l = 0 := by rw [tagE, if_pos (Or.inr (by simpa using e60))]
      have HV := Lib.hid hv
      clear hv
      go_enter Try.func10, Try.ntmps10
      go_wp2_with fail
      go_ret
      exact ⟨ret_int (by rw [HV.out]; rfl), Below.refl _ _⟩
    | true =>
      have n60 : (bat l 0 != 60) = false := by rw [bne, e60]; rfl
      have hv : tagE l = tagR l := by rw [tagE, if_neg]; rw [HL.out]; rintro (e | e); exact absurd e (by omega); exact e (by simpa using e60)
      have HV := Lib.hid hv
      clear hv
      cases e47 : (bat l 1 == 47) with
      | true =>
        have hv2 : tagE l = clo l := by rw [HV.out, tagR, if_pos (by simpa using e47)]
        obtain ⟨T, hT⟩ : ∃ T, T = tname l 2 := ⟨_, rfl⟩
        have ct := inTagName_any (some ⟨b, o, none⟩) n c l 2 2 w h rfl hn (by omega)
        rw [← hT] at ct
        have CT := Lib.hid ct
        by_cases hT0 : T = 0
        · have hv3 : tagE l = 0 := by rw [hv2, clo, if_pos (by rw [← hT, hT0])]
          have HV3 := Lib.hid hv3
          clear hv2 hv3 ct hT
          subst hT0
          go_enter Try.func10, Try.ntmps10
          go_wp2_with fail
          refine CT.out.mono ?_
          rintro e w' ⟨rfl, rfl⟩
          go_wp2_with fail
          go_ret
          exact ⟨ret_int (by rw [HV3.out]; rfl), Below.refl _ _⟩
        · have tb := tname_bd (l := l) (i := 2) (by rw [← hT]; exact hT0)
          rw [← hT, HL.out] at tb
          obtain ⟨t1, t2⟩ := tb
          obtain ⟨K, hK⟩ : ∃ K, K = run blkI l T := ⟨_, rfl⟩
          have k1 := le_run blkI l T
          have k2 := run_le blkI l T (by rw [HL.out]; omega)
          have ck := inRun_any blkI 17 #[] (fun x w => inSpace_any x w) enters_inSpace (some ⟨b, o, none⟩) n c l T T w h rfl (by omega) (by omega)
          rw [← hK] at k1 k2 ck
          rw [HL.out] at k2
          have ca := inAt_any (some ⟨b, o, none⟩) n c l K K 62 w h rfl (by omega)
          have CK := Lib.hid ck
          have CA := Lib.hid ca
          have hv3 : tagE l = if atB l K 62 then K + 1 else 0 := by rw [hv2, clo, ← hT, if_neg hT0, ← hK]
          have HV3 := Lib.hid hv3
          clear hv2 hv3 ct hT ck ca hK
          cases ha : atB l K 62 with
          | true =>
            have CA2 := Lib.hid (ha ▸ CA.out)
            go_enter Try.func10, Try.ntmps10
            go_wp2_with fail
            refine CT.out.mono ?_
            rintro e w' ⟨rfl, rfl⟩
            go_wp2_with fail
            refine CK.out.mono ?_
            rintro e w' ⟨rfl, rfl⟩
            go_wp2_with fail
            refine CA2.out.mono ?_
            rintro e w' ⟨rfl, rfl⟩
            go_wp2_with fail
            go_ret
            exact ⟨ret_int (by rw [HV3.out, ha]; rfl), Below.refl _ _⟩
          | false =>
            have CA2 := Lib.hid (ha ▸ CA.out)
            go_enter Try.func10, Try.ntmps10
            go_wp2_with fail
            refine CT.out.mono ?_
            rintro e w' ⟨rfl, rfl⟩
            go_wp2_with fail
            refine CK.out.mono ?_
            rintro e w' ⟨rfl, rfl⟩
            go_wp2_with fail
            refine CA2.out.mono ?_
            rintro e w' ⟨rfl, rfl⟩
            go_wp2_with fail
            go_ret
            exact ⟨ret_int (by rw [HV3.out, ha]; rfl), Below.refl _ _⟩
      | false =>
        cases e33 : (bat l 1 == 33) with
        | true =>
          have hv2 : tagE l = bang l := by rw [HV.out, tagR, if_neg (by simpa using e47), if_pos (by simpa using e33)]
          have HV2 := Lib.hid hv2
          clear hv2
          go_enter Try.func10, Try.ntmps10
          go_wp2_with fail
          refine (inBangEnd_any _ n c l _ h hnc hcm hn h3).mono ?_
          rintro e w' ⟨rfl, rfl⟩
          go_wp2_with fail
          go_ret
          exact ⟨ret_int (by rw [HV2.out]), Below.refl _ _⟩
        | false =>
          cases e63 : (bat l 1 == 63) with
          | true =>
            have hv2 : tagE l = piE l := by rw [HV.out, tagR, if_neg (by simpa using e47), if_neg (by simpa using e33), if_pos (by simpa using e63)]
            have cf := inFind_any (some ⟨b, o, none⟩) n c l 2 2 ⟨#[63, 62]⟩ w h rfl hnc hcm hn (by omega) (by decide) (by decide)
            rw [lit_list [63, 62] ⟨#[63, 62]⟩ rfl] at cf
            cases hR : fnd l [63, 62] (l.length + 1) 2 with
            | none =>
              have hv3 : tagE l = 0 := by rw [hv2, piE, hR]; rfl
              rw [hR] at cf
              have CF := Lib.hid cf
              have HV3 := Lib.hid hv3
              clear hv2 hv3 cf hR
              go_enter Try.func10, Try.ntmps10
              go_wp2_with fail
              refine CF.out.mono ?_
              rintro e w' ⟨rfl, rfl⟩
              unfold fndI
              go_wp2_with fail
              go_ret
              exact ⟨ret_int (by rw [HV3.out]; rfl), Below.refl _ _⟩
            | some k =>
              obtain ⟨k1, k2, _, _⟩ := fnd_some hR
              have k2' : k + 2 ≤ n := by rw [← HL.out]; exact k2
              obtain ⟨R, hRr⟩ : ∃ R, R = run (neI 10) l 0 := ⟨_, rfl⟩
              have r2 := run_le (neI 10) l 0 (by rw [HL.out]; omega)
              have cr := inRun_any (neI 10) 21 #[] (fun x w => tagEnd1_any x w) enters_tagEnd1 (some ⟨b, o, none⟩) n c l 0 0 w h rfl (by omega) (by omega)
              rw [← hRr] at cr r2
              rw [HL.out] at r2
              have hv3 : tagE l = if k < R then k + 2 else 0 := by rw [hv2, piE, hR, piF, ← hRr]
              rw [hR] at cf
              have CF := Lib.hid cf
              have CR := Lib.hid cr
              have HV3 := Lib.hid hv3
              clear hv2 hv3 cf cr hR hRr k2
              by_cases hkR : k < R
              · have HV4 := Lib.hid (HV3.out.trans (if_pos hkR))
                go_enter Try.func10, Try.ntmps10
                go_wp2_with fail
                refine CF.out.mono ?_
                rintro e w' ⟨rfl, rfl⟩
                unfold fndI
                go_wp2_with fail
                refine CR.out.mono ?_
                rintro e w' ⟨rfl, rfl⟩
                go_wp2_with fail
                go_ret
                exact ⟨ret_int (by rw [HV4.out]; rfl), Below.refl _ _⟩
              · have HV4 := Lib.hid (HV3.out.trans (if_neg hkR))
                go_enter Try.func10, Try.ntmps10
                go_wp2_with fail
                refine CF.out.mono ?_
                rintro e w' ⟨rfl, rfl⟩
                unfold fndI
                go_wp2_with fail
                refine CR.out.mono ?_
                rintro e w' ⟨rfl, rfl⟩
                go_wp2_with fail
                go_ret
                exact ⟨ret_int (by rw [HV4.out]; rfl), Below.refl _ _⟩
          | false =>
            have hv2 : tagE l = openEnd l := by rw [HV.out, tagR, if_neg (by simpa using e47), if_neg (by simpa using e33), if_neg (by simpa using e63)]
            have HV2 := Lib.hid hv2
            clear hv2
            go_enter Try.func10, Try.ntmps10
            go_wp2_with fail
            refine (inOpenEnd_any _ n c l _ h hn).mono ?_
            rintro e w' ⟨rfl, hb⟩
            go_wp2_with fail
            go_ret
            exact ⟨ret_int (by rw [HV2.out]), hb⟩
  · have hv : tagE l = 0 := by rw [tagE, if_pos (Or.inl (by rw [HL.out]; omega))]
    have HV := Lib.hid hv
    clear hv
    go_enter Try.func10, Try.ntmps10
    go_wp2_with fail
    go_ret
    exact ⟨ret_int (by rw [HV.out]; rfl), Below.refl _ _⟩

set_option maxHeartbeats 4000000 in
set_option maxRecDepth 100000 in
theorem zzTagEnd_any (p : Option Addr) (n c : Nat) (l : List UInt8) (w : World) (h : Bs w p n l) (hnc : n ≤ c) (hcm : c ≤ maxLen) (hn : n ≤ 1000000) (ha : ∀ k, bat l k < 128) :
    Calls Try.prog 27 #[.slice p n c] w fun e w' => e = .returned (.int .i64 (tagE l)) ∧ Below w.heap.size w w' := by
  have HL := Lib.hid h.len
  have HA := Lib.hid ha
  clear ha
  by_cases h3 : 3 ≤ n
  · obtain ⟨b, o, rfl, hbl, hc⟩ := h.cells (by omega)
    have c0 : w.cell? ⟨b, o, none⟩ = some (.int .u8 (bat l 0)) := by simpa using hc 0 (by omega)
    have c1 := hc 1 (by omega)
    have HC := Lib.hid hc
    clear hc
    cases e60 : (bat l 0 == 60) with
    | false =>
      have n60 : (bat l 0 != 60) = true := by rw [bne, e60]; rfl
      have hv : tagE l = 0 := by rw [tagE, if_pos (Or.inr (by simpa using e60))]
      have HV := Lib.hid hv
      clear hv
      go_enter Try.func27, Try.ntmps27
      go_wp2_with fail
      go_ret
      exact ⟨ret_int (by rw [HV.out]; rfl), Below.refl _ _⟩
    | true =>
      have n60 : (bat l 0 != 60) = false := by rw [bne, e60]; rfl
      have hv : tagE l = tagR l := by rw [tagE, if_neg]; rw [HL.out]; rintro (e | e); exact absurd e (by omega); exact e (by simpa using e60)
      have HV := Lib.hid hv
      clear hv
      cases e47 : (bat l 1 == 47) with
      | true =>
        have hv2 : tagE l = clo l := by rw [HV.out, tagR, if_pos (by simpa using e47)]
        obtain ⟨T, hT⟩ : ∃ T, T = tname l 2 := ⟨_, rfl⟩
        have ct := zzTagName_any (some ⟨b, o, none⟩) n c l 2 2 w h rfl hn (by omega) HA.out
        rw [← hT] at ct
        have CT := Lib.hid ct
        by_cases hT0 : T = 0
        · have hv3 : tagE l = 0 := by rw [hv2, clo, if_pos (by rw [← hT, hT0])]
          have HV3 := Lib.hid hv3
          clear hv2 hv3 ct hT
          subst hT0
          go_enter Try.func27, Try.ntmps27
          go_wp2_with fail
          refine CT.out.mono ?_
          rintro e w' ⟨rfl, rfl⟩
          go_wp2_with fail
          go_ret
          exact ⟨ret_int (by rw [HV3.out]; rfl), Below.refl _ _⟩
        · have tb := tname_bd (l := l) (i := 2) (by rw [← hT]; exact hT0)
          rw [← hT, HL.out] at tb
          obtain ⟨t1, t2⟩ := tb
          obtain ⟨K, hK⟩ : ∃ K, K = run blkI l T := ⟨_, rfl⟩
          have k1 := le_run blkI l T
          have k2 := run_le blkI l T (by rw [HL.out]; omega)
          have ck := zzBlanks_any (some ⟨b, o, none⟩) n c l T T w h rfl (by omega) (by omega)
          rw [← hK] at k1 k2 ck
          rw [HL.out] at k2
          have CK := Lib.hid ck
          have hv3 : tagE l = if atB l K 62 then K + 1 else 0 := by rw [hv2, clo, ← hT, if_neg hT0, ← hK]
          have HV3 := Lib.hid hv3
          clear hv2 hv3 ct hT ck hK
          by_cases hKn : K < n
          · have cK := HC.out K hKn
            cases e62 : (bat l K == 62) with
            | true =>
              have hv4 : tagE l = K + 1 := by rw [HV3.out, atB_lt (by rw [HL.out]; exact hKn), e62]; rfl
              have HV4 := Lib.hid hv4
              clear hv4
              go_enter Try.func27, Try.ntmps27
              go_wp2_with fail
              refine CT.out.mono ?_
              rintro e w' ⟨rfl, rfl⟩
              go_wp2_with fail
              refine CK.out.mono ?_
              rintro e w' ⟨rfl, rfl⟩
              go_wp2_with fail
              go_ret
              exact ⟨ret_int (by rw [HV4.out]; rfl), Below.refl _ _⟩
            | false =>
              have hv4 : tagE l = 0 := by rw [HV3.out, atB_lt (by rw [HL.out]; exact hKn), e62]; rfl
              have HV4 := Lib.hid hv4
              clear hv4
              go_enter Try.func27, Try.ntmps27
              go_wp2_with fail
              refine CT.out.mono ?_
              rintro e w' ⟨rfl, rfl⟩
              go_wp2_with fail
              refine CK.out.mono ?_
              rintro e w' ⟨rfl, rfl⟩
              go_wp2_with fail
              go_ret
              exact ⟨ret_int (by rw [HV4.out]; rfl), Below.refl _ _⟩
          · have hv4 : tagE l = 0 := by rw [HV3.out, atB_ge (by rw [HL.out]; omega)]; rfl
            have HV4 := Lib.hid hv4
            clear hv4
            go_enter Try.func27, Try.ntmps27
            go_wp2_with fail
            refine CT.out.mono ?_
            rintro e w' ⟨rfl, rfl⟩
            go_wp2_with fail
            refine CK.out.mono ?_
            rintro e w' ⟨rfl, rfl⟩
            go_wp2_with fail
            go_ret
            exact ⟨ret_int (by rw [HV4.out]; rfl), Below.refl _ _⟩
      | false =>
        cases e63 : (bat l 1 == 63) with
        | true =>
          have hne33 : ¬ bat l 1 = 33 := by have : bat l 1 = 63 := by simpa using e63
                                            omega
          have hv2 : tagE l = piF l (fnd l [63, 62] (n + 1) 2) := by rw [HV.out, tagR, if_neg (by simpa using e47), if_neg hne33, if_pos (by simpa using e63), piE, HL.out]
          obtain ⟨R, hR⟩ : ∃ R, R = fnd l [63, 62] (n + 1) 2 := ⟨_, rfl⟩
          rw [← hR] at hv2
          have hr0 : run (neI 10) l 0 = run (neI 10) l 2 := run_through 2 0 (by rw [HL.out]; omega) (fun m hm1 hm2 => by
            have a0 : bat l 0 = 60 := by simpa using e60
            have a1 : bat l 1 = 63 := by simpa using e63
            have : m = 0 ∨ m = 1 := by omega
            rcases this with rfl | rfl
            · simp [neI, a0]
            · simp [neI, a1])
          have HV2 := Lib.hid hv2
          have HR0 := Lib.hid hR
          have HQ0 := Lib.hid hr0
          clear hv2 hR hr0 hne33
          go_enter Try.func27, Try.ntmps27
          go_wp2_with fail
          go_loopg [4] (n + 1) (fun gf t wx => ∃ k : Nat, t = .int .i64 k ∧ R = fnd l [63, 62] gf k ∧ run (neI 10) l 0 = run (neI 10) l k ∧ n + 1 ≤ k + gf ∧ k ≤ 2000000 ∧ wx = w)
          case atStart => exact ⟨2, rfl, HR0.out, HQ0.out, by omega, by omega, rfl⟩
          case round =>
            obtain ⟨k, rfl, hr, hq, hg, hk, rfl⟩ := hrel
            have HR := Lib.hid hr
            have HQ := Lib.hid hq
            clear hr hq
            by_cases hle : k + 1 < n
            · obtain ⟨g', rfl⟩ : ∃ g', gk = g' + 1 := ⟨gk - 1, by omega⟩
              have d0 := HC.out k (by omega)
              have d1 := HC.out (k + 1) hle
              have hst : fnd l [63, 62] (g' + 1) k = if (bat l k == 63 && bat l (k + 1) == 62) then some k else fnd l [63, 62] g' (k + 1) := by
                rw [fnd, if_pos (by rw [HL.out]; simp; omega), begins_two l k 63 62 (by rw [HL.out]; omega)]
                rfl
              have HST := Lib.hid hst
              clear hst
              cases e10 : (bat l k == 10) with
              | true =>
                have n10 : (bat l k != 10) = false := by rw [bne, e10]; rfl
                have hqk : run (neI 10) l 0 = k := by rw [HQ.out, run_stop (by rw [neI, n10])]
                have hfin : tagE l = 0 := by
                  have a10 : bat l k = 10 := by simpa using e10
                  have h63 : (bat l k == 63) = false := by simp [a10]
                  rw [HV2.out, HR.out, HST.out, h63]
                  simp only [Bool.false_and, Bool.false_eq_true, if_false]
                  cases hf : fnd l [63, 62] g' (k + 1) with
                  | none => rfl
                  | some m =>
                    have hm := (fnd_some hf).1
                    rw [piF, hqk, if_neg (by omega)]
                have HF := Lib.hid hfin
                clear hfin hqk
                go_wp2_with fail
                go_ret
                exact ⟨ret_int (by rw [HF.out]; rfl), Below.refl _ _⟩
              | false =>
                have n10 : (bat l k != 10) = true := by rw [bne, e10]; rfl
                have hq2 : run (neI 10) l 0 = run (neI 10) l (k + 1) := by rw [HQ.out, run_step (by rw [HL.out]; omega) (by rw [neI, n10])]
                have HQ2 := Lib.hid hq2
                clear hq2
                cases e0 : (bat l k == 63) with
                | false =>
                  have HF : Hid (R = fnd l [63, 62] g' (k + 1)) := Lib.hid (by rw [HR.out, HST.out, e0]; rfl)
                  go_wp2_with fail
                  go_roundg g'
                  case measure => omega
                  case rel => exact ⟨k + 1, by go_num, HF.out, HQ2.out, by omega, by omega, rfl⟩
                | true =>
                  cases e1 : (bat l (k + 1) == 62) with
                  | false =>
                    have HF : Hid (R = fnd l [63, 62] g' (k + 1)) := Lib.hid (by rw [HR.out, HST.out, e0, e1]; rfl)
                    go_wp2_with fail
                    go_roundg g'
                    case measure => omega
                    case rel => exact ⟨k + 1, by go_num, HF.out, HQ2.out, by omega, by omega, rfl⟩
                  | true =>
                    have hfin : tagE l = k + 2 := by
                      have := le_run (neI 10) l (k + 1)
                      rw [HV2.out, HR.out, HST.out, e0, e1]
                      show piF l (some k) = k + 2
                      rw [piF, HQ2.out, if_pos (by omega)]
                    have HF := Lib.hid hfin
                    clear hfin
                    go_wp2_with fail
                    go_ret
                    exact ⟨ret_int (by rw [HF.out]; rfl), Below.refl _ _⟩
            · have hfin : tagE l = 0 := by rw [HV2.out, HR.out, fnd_out _ _ _ _ (by rw [HL.out]; simp; omega)]; rfl
              have HF := Lib.hid hfin
              clear hfin
              go_wp2_with fail
              go_ret
              exact ⟨ret_int (by rw [HF.out]; rfl), Below.refl _ _⟩
        | false =>
          cases e33 : (bat l 1 == 33) with
          | true =>
            have hv2 : tagE l = decl l := by rw [HV.out, tagR, if_neg (by simpa using e47), if_pos (by simpa using e33), bang_eq l (by rw [HL.out]; exact h3) (by simpa using e60) (by simpa using e33)]
            have HV2 := Lib.hid hv2
            clear hv2
            go_enter Try.func27, Try.ntmps27
            go_wp2_with fail
            refine (zzDecl_any _ n c l _ h hnc hcm hn h3 HA.out).mono ?_
            rintro e w' ⟨rfl, hb⟩
            go_wp2_with fail
            go_ret
            exact ⟨ret_int (by rw [HV2.out]), hb⟩
          | false =>
            have hv2 : tagE l = openEnd l := by rw [HV.out, tagR, if_neg (by simpa using e47), if_neg (by simpa using e33), if_neg (by simpa using e63)]
            have HV2 := Lib.hid hv2
            clear hv2
            go_enter Try.func27, Try.ntmps27
            go_wp2_with fail
            refine (zzOpenTagEnd_any _ n c l _ h hn HA.out).mono ?_
            rintro e w' ⟨rfl, rfl⟩
            go_wp2_with fail
            go_ret
            exact ⟨ret_int (by rw [HV2.out]), Below.refl _ _⟩
  · have hv : tagE l = 0 := by rw [tagE, if_pos (Or.inl (by rw [HL.out]; omega))]
    have HV := Lib.hid hv
    clear hv
    go_enter Try.func27, Try.ntmps27
    go_wp2_with fail
    go_ret
    exact ⟨ret_int (by rw [HV.out]; rfl), Below.refl _ _⟩

end Go.Proofs.Ytkjbmekpcjfenaa
