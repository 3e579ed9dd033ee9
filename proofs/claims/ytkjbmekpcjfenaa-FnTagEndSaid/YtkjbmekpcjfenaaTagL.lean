/- Tags: the reference's inBangEnd walked to `bang`. Condition: lengths are bounded. -/
import Derived.Test.YtkjbmekpcjfenaaTagK
namespace Go.Proofs.Ytkjbmekpcjfenaa
open Go.ChangeShapes Go.WideShapes Go.ChangeAt Go.RowKit

theorem lit_list (k : List UInt8) (s : ByteArray) (h : s = str k) : s.toList = k := by rw [h, str_toList]
set_option maxHeartbeats 4000000 in
set_option maxRecDepth 100000 in
theorem inBangEnd_any (p : Option Addr) (n c : Nat) (l : List UInt8) (w : World) (h : Bs w p n l) (hnc : n ≤ c) (hcm : c ≤ maxLen) (hn : n ≤ 1000000) (h3 : 3 ≤ n) :
    Calls Try.prog 19 #[.slice p n c] w fun e w' => e = .returned (.int .i64 (bang l)) ∧ w = w' := by
  obtain ⟨b, o, rfl, _, hc⟩ := h.cells (by omega)
  have HL := Lib.hid h.len
  have HC := Lib.hid hc
  clear hc
  have c7 := begins_any (some ⟨b, o, none⟩) n c l ⟨#[60, 33, 45, 45, 45, 45, 62]⟩ w h hnc hcm (by decide) (by decide)
  rw [lit_list [60, 33, 45, 45, 45, 45, 62] ⟨#[60, 33, 45, 45, 45, 45, 62]⟩ rfl] at c7
  cases b7 : begins l [60, 33, 45, 45, 45, 45, 62] with
  | true =>
    have hv : bang l = 7 := by rw [bang, b7]; rfl
    rw [b7] at c7
    have HV := Lib.hid hv
    have C7 := Lib.hid c7
    clear hv c7 b7
    go_enter Try.func19, Try.ntmps19
    go_wp2_with fail
    refine C7.out.mono ?_
    rintro e w' ⟨rfl, rfl⟩
    go_wp2_with fail
    go_ret
    exact ⟨ret_int (by rw [HV.out]; rfl), rfl⟩
  | false =>
    have hv : bang l = if begins l [60, 33, 45, 45] && decide (4 < l.length) then bangC l else if folded l cdata then cdF (fnd l [93, 93, 62] (l.length + 1) 9) else bangD l := by rw [bang, b7]; rfl
    rw [b7] at c7
    have HV := Lib.hid hv
    have C7 := Lib.hid c7
    clear hv c7 b7
    have c4 := begins_any (some ⟨b, o, none⟩) n c l ⟨#[60, 33, 45, 45]⟩ w h hnc hcm (by decide) (by decide)
    rw [lit_list [60, 33, 45, 45] ⟨#[60, 33, 45, 45]⟩ rfl] at c4
    obtain ⟨B, hB⟩ : ∃ B, B = (begins l [60, 33, 45, 45] && decide (4 < n)) := ⟨_, rfl⟩
    have HB := Lib.hid hB
    clear hB
    go_enter Try.func19, Try.ntmps19
    go_wp2_with fail
    refine C7.out.mono ?_
    rintro e w' ⟨rfl, rfl⟩
    go_upto_region 3 with fail
    go_cut [15] (fun s wx => s = .bool B ∧ wx = w)
    case first =>
      cases b4 : begins l [60, 33, 45, 45] with
      | false =>
        rw [b4] at c4
        have C4 := Lib.hid c4
        clear c4
        go_wp2_with fail
        refine C4.out.mono ?_
        rintro e w' ⟨rfl, rfl⟩
        go_wp2_with fail
        go_meet
        exact ⟨by rw [HB.out, b4]; rfl, rfl⟩
      | true =>
        rw [b4] at c4
        have C4 := Lib.hid c4
        clear c4
        go_wp2_with fail
        refine C4.out.mono ?_
        rintro e w' ⟨rfl, rfl⟩
        go_wp2_with fail
        go_meet
        exact ⟨by rw [HB.out, b4]; simp; omega, rfl⟩
    case rest =>
      clear c4
      obtain ⟨rfl, rfl⟩ := hcut
      cases hb : B with
      | true =>
        have hb4 : 4 < n := by
          have := HB.out
          rw [hb] at this
          simp only [Bool.true_eq, Bool.and_eq_true, decide_eq_true_eq] at this
          exact this.2
        have hv : bang l = bangC l := by rw [HV.out, HL.out, ← HB.out, hb]; rfl
        have c4 := HC.out 4 hb4
        have cf := inFind_any (some ⟨b, o, none⟩) n c l 4 4 ⟨#[45, 45]⟩ _ h rfl hnc hcm hn (by omega) (by decide) (by decide)
        rw [lit_list [45, 45] ⟨#[45, 45]⟩ rfl] at cf
        have hd := (h.drop 4 (by omega))
        have cb := begins_any _ (n - 4) (c - 4) (l.drop 4) ⟨#[45, 62]⟩ _ hd (by omega) (by unfold maxLen at hcm ⊢; omega) (by decide) (by decide)
        rw [lit_list [45, 62] ⟨#[45, 62]⟩ rfl] at cb
        cases hR : fnd l [45, 45] (l.length + 1) 4 with
        | none =>
          have hv2 : bang l = 0 := by rw [hv, bangC, hR]
          rw [hR] at cf
          have CF := Lib.hid cf
          have HV2 := Lib.hid hv2
          clear hv hv2 cf cb hR
          go_wp2_with fail
          refine CF.out.mono ?_
          rintro e w' ⟨rfl, rfl⟩
          unfold fndI
          go_wp2_with fail
          go_ret
          exact ⟨ret_int (by rw [HV2.out]; rfl), rfl⟩
        | some k =>
          obtain ⟨k1, k2, _, _⟩ := fnd_some hR
          have k2' : k + 2 ≤ n := by rw [← HL.out]; exact k2
          have hv2 : bang l = if 4 < k ∧ atB l (k + 2) 62 = true ∧ ¬ bat l 4 = 62 ∧ begins (l.drop 4) [45, 62] = false then k + 3 else 0 := by rw [hv, bangC, hR]
          rw [hR] at cf
          have CF := Lib.hid cf
          have HV2 := Lib.hid hv2
          clear hv hv2 cf hR k2
          go_wp2_with fail
          refine CF.out.mono ?_
          rintro e w' ⟨rfl, rfl⟩
          unfold fndI
          by_cases h4k : 4 < k
          · have ca := fun j' (hj' : j' = ((k + 2 : Nat) : Int)) => inAt_any (some ⟨b, o, none⟩) n c l (k + 2) j' 62 _ h hj' (by omega)
            cases ha : atB l (k + 2) 62 with
            | false =>
              have hv3 : bang l = 0 := by rw [HV2.out, if_neg]; rintro ⟨_, e, _⟩; rw [ha] at e; cases e
              simp only [ha] at ca
              have CA := Lib.hid ca
              have HV3 := Lib.hid hv3
              clear hv3 ca ha cb
              go_wp2_with fail
              refine (CA.out _ (by omega)).mono ?_
              rintro e w' ⟨rfl, rfl⟩
              go_wp2_with fail
              go_ret
              exact ⟨ret_int (by rw [HV3.out]; rfl), rfl⟩
            | true =>
              simp only [ha] at ca
              have CA := Lib.hid ca
              cases e62 : (bat l 4 == 62) with
              | true =>
                have hv3 : bang l = 0 := by rw [HV2.out, if_neg]; rintro ⟨_, _, e, _⟩; exact e (by simpa using e62)
                have HV3 := Lib.hid hv3
                have n62 : (bat l 4 != 62) = false := by rw [bne, e62]; rfl
                clear hv3 ca ha cb
                go_wp2_with fail
                refine (CA.out _ (by omega)).mono ?_
                rintro e w' ⟨rfl, rfl⟩
                go_wp2_with fail
                go_ret
                exact ⟨ret_int (by rw [HV3.out]; rfl), rfl⟩
              | false =>
                have n62 : (bat l 4 != 62) = true := by rw [bne, e62]; rfl
                have m62 : ¬ bat l 4 = 62 := by simpa using e62
                cases hbb : begins (l.drop 4) [45, 62] with
                | true =>
                  have hv3 : bang l = 0 := by rw [HV2.out, if_neg]; rintro ⟨_, _, _, e⟩; rw [hbb] at e; cases e
                  rw [hbb] at cb
                  have CB := Lib.hid cb
                  have HV3 := Lib.hid hv3
                  clear hv3 ca ha cb m62 hbb
                  go_wp2_with fail
                  refine (CA.out _ (by omega)).mono ?_
                  rintro e w' ⟨rfl, rfl⟩
                  go_wp2_with fail
                  refine CB.out.mono ?_
                  rintro e w' ⟨rfl, rfl⟩
                  go_wp2_with fail
                  go_ret
                  exact ⟨ret_int (by rw [HV3.out]; rfl), rfl⟩
                | false =>
                  have hv3 : bang l = k + 3 := by rw [HV2.out, if_pos ⟨h4k, ha, m62, hbb⟩]
                  rw [hbb] at cb
                  have CB := Lib.hid cb
                  have HV3 := Lib.hid hv3
                  clear hv3 ca ha cb m62 hbb
                  go_wp2_with fail
                  refine (CA.out _ (by omega)).mono ?_
                  rintro e w' ⟨rfl, rfl⟩
                  go_wp2_with fail
                  refine CB.out.mono ?_
                  rintro e w' ⟨rfl, rfl⟩
                  go_wp2_with fail
                  go_ret
                  exact ⟨ret_int (by rw [HV3.out]; rfl), rfl⟩
          · have hv3 : bang l = 0 := by rw [HV2.out, if_neg (fun e => h4k e.1)]
            have HV3 := Lib.hid hv3
            clear hv3 cb
            go_wp2_with fail
            go_ret
            exact ⟨ret_int (by rw [HV3.out]; rfl), rfl⟩
      | false =>
        have hv : bang l = if folded l cdata then cdF (fnd l [93, 93, 62] (l.length + 1) 9) else bangD l := by rw [HV.out, HL.out, ← HB.out, hb]; rfl
        have cd := beginsFolded_any (some ⟨b, o, none⟩) n c l ⟨#[60, 33, 91, 99, 100, 97, 116, 97, 91]⟩ _ h hn (by decide) (by decide)
        rw [lit_list cdata ⟨#[60, 33, 91, 99, 100, 97, 116, 97, 91]⟩ rfl] at cd
        cases hfo : folded l cdata with
        | true =>
          rw [hfo] at cd
          have CD := Lib.hid cd
          have cf := inFind_any (some ⟨b, o, none⟩) n c l 9 9 ⟨#[93, 93, 62]⟩ _ h rfl hnc hcm hn (by omega) (by decide) (by decide)
          rw [lit_list [93, 93, 62] ⟨#[93, 93, 62]⟩ rfl] at cf
          cases hR : fnd l [93, 93, 62] (l.length + 1) 9 with
          | none =>
            have hv2 : bang l = 0 := by rw [hv, hfo, hR]; rfl
            rw [hR] at cf
            have CF := Lib.hid cf
            have HV2 := Lib.hid hv2
            clear hv hv2 cf cd hR hfo
            go_wp2_with fail
            refine CD.out.mono ?_
            rintro e w' ⟨rfl, rfl⟩
            go_wp2_with fail
            refine CF.out.mono ?_
            rintro e w' ⟨rfl, rfl⟩
            unfold fndI
            go_wp2_with fail
            go_ret
            exact ⟨ret_int (by rw [HV2.out]; rfl), rfl⟩
          | some k =>
            obtain ⟨k1, k2, _, _⟩ := fnd_some hR
            have k2' : k + 3 ≤ n := by rw [← HL.out]; exact k2
            have hv2 : bang l = k + 3 := by rw [hv, hfo, hR]; rfl
            rw [hR] at cf
            have CF := Lib.hid cf
            have HV2 := Lib.hid hv2
            clear hv hv2 cf cd hR hfo k2
            go_wp2_with fail
            refine CD.out.mono ?_
            rintro e w' ⟨rfl, rfl⟩
            go_wp2_with fail
            refine CF.out.mono ?_
            rintro e w' ⟨rfl, rfl⟩
            unfold fndI
            go_wp2_with fail
            go_ret
            exact ⟨ret_int (by rw [HV2.out]; rfl), rfl⟩
        | false =>
          rw [hfo] at cd
          have CD := Lib.hid cd
          obtain ⟨K, hK⟩ : ∃ K, K = run lettI l 2 := ⟨_, rfl⟩
          have k1 := le_run lettI l 2
          have k2 := run_le lettI l 2 (by rw [HL.out]; omega)
          have cK := inRun_any lettI 24 #[] (fun x w => inLetter_any x w) enters_inLetter2 (some ⟨b, o, none⟩) n c l 2 2 _ h rfl (by omega) (by omega)
          rw [← hK] at k1 k2 cK
          rw [HL.out] at k2
          obtain ⟨E, hE⟩ : ∃ E, E = run blkI l K := ⟨_, rfl⟩
          have e1 := le_run blkI l K
          have e2 := run_le blkI l K (by rw [HL.out]; omega)
          have cE := inRun_any blkI 17 #[] (fun x w => inSpace_any x w) enters_inSpace (some ⟨b, o, none⟩) n c l K K _ h rfl (by omega) (by omega)
          rw [← hE] at e1 e2 cE
          rw [HL.out] at e2
          obtain ⟨R, hR⟩ : ∃ R, R = run (neI 62) l E := ⟨_, rfl⟩
          have r1 := le_run (neI 62) l E
          have r2 := run_le (neI 62) l E (by rw [HL.out]; omega)
          have cR := inRun_any (neI 62) 31 #[] (fun x w => bang1_any x w) enters_bang1 (some ⟨b, o, none⟩) n c l E E _ h rfl (by omega) (by omega)
          rw [← hR] at r1 r2 cR
          rw [HL.out] at r2
          have hv2 : bang l = if 2 < K ∧ K < E then (if R < n then R + 1 else 0) else 0 := by rw [hv, hfo, bangD, ← hK, ← hE, decT, ← hR, HL.out]; rfl
          have HV2 := Lib.hid hv2
          have CK := Lib.hid cK
          have CE := Lib.hid cE
          have CR := Lib.hid cR
          clear hv hv2 cK cE cR hK hE hR hfo cd
          by_cases hKE : 2 < K ∧ K < E
          · obtain ⟨hk2, hke⟩ := hKE
            by_cases hRn : R < n
            · have hv3 : bang l = R + 1 := by rw [HV2.out, if_pos ⟨hk2, hke⟩, if_pos hRn]
              have HV3 := Lib.hid hv3
              clear hv3
              go_wp2_with fail
              refine CD.out.mono ?_
              rintro e w' ⟨rfl, rfl⟩
              go_wp2_with fail
              refine CK.out.mono ?_
              rintro e w' ⟨rfl, rfl⟩
              go_wp2_with fail
              refine CE.out.mono ?_
              rintro e w' ⟨rfl, rfl⟩
              go_wp2_with fail
              refine CR.out.mono ?_
              rintro e w' ⟨rfl, rfl⟩
              go_wp2_with fail
              go_ret
              exact ⟨ret_int (by rw [HV3.out]; rfl), rfl⟩
            · have hv3 : bang l = 0 := by rw [HV2.out, if_pos ⟨hk2, hke⟩, if_neg hRn]
              have HV3 := Lib.hid hv3
              clear hv3
              go_wp2_with fail
              refine CD.out.mono ?_
              rintro e w' ⟨rfl, rfl⟩
              go_wp2_with fail
              refine CK.out.mono ?_
              rintro e w' ⟨rfl, rfl⟩
              go_wp2_with fail
              refine CE.out.mono ?_
              rintro e w' ⟨rfl, rfl⟩
              go_wp2_with fail
              refine CR.out.mono ?_
              rintro e w' ⟨rfl, rfl⟩
              go_wp2_with fail
              go_ret
              exact ⟨ret_int (by rw [HV3.out]; rfl), rfl⟩
          · have hv3 : bang l = 0 := by rw [HV2.out, if_neg hKE]
            have HV3 := Lib.hid hv3
            clear hv3
            by_cases hk2 : 2 < K
            · have hke : ¬ K < E := fun e => hKE ⟨hk2, e⟩
              go_wp2_with fail
              refine CD.out.mono ?_
              rintro e w' ⟨rfl, rfl⟩
              go_wp2_with fail
              refine CK.out.mono ?_
              rintro e w' ⟨rfl, rfl⟩
              go_wp2_with fail
              refine CE.out.mono ?_
              rintro e w' ⟨rfl, rfl⟩
              go_wp2_with fail
              go_ret
              exact ⟨ret_int (by rw [HV3.out]; rfl), rfl⟩
            · go_wp2_with fail
              refine CD.out.mono ?_
              rintro e w' ⟨rfl, rfl⟩
              go_wp2_with fail
              refine CK.out.mono ?_
              rintro e w' ⟨rfl, rfl⟩
              go_wp2_with fail
              refine CE.out.mono ?_
              rintro e w' ⟨rfl, rfl⟩
              go_wp2_with fail
              go_ret
              exact ⟨ret_int (by rw [HV3.out]; rfl), rfl⟩

end Go.Proofs.Ytkjbmekpcjfenaa
