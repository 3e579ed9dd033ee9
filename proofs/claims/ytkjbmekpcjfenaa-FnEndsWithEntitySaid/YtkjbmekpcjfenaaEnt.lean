/- Entities: spec.inEntityEnd and blackfriday.zzHTMLEntity walked: both are eEnd. Condition: lengths are bounded. -/
import Derived.Test.YtkjbmekpcjfenaaRun
namespace Go.Proofs.Ytkjbmekpcjfenaa
open Go.ChangeShapes Go.WideShapes Go.ChangeAt Go.RowKit

def semi (l : List UInt8) (e : Nat) : Nat := if atB l e 59 then e + 1 else 0
def num (l : List UInt8) (i : Nat) (P : Int → Bool) (m : Nat) : Nat := if run P l i < i + 1 ∨ i + m < run P l i then 0 else semi l (run P l i)
def nam (l : List UInt8) (i : Nat) : Nat := if run lettI l i < i + 2 ∨ i + 31 < run lettI l i ∨ run lettI l i + 2 < run digI l (run lettI l i) then 0 else semi l (run digI l (run lettI l i))
/-- the end of the entity at a place, 0: none -/
def eEnd (l : List UInt8) (i : Nat) : Nat :=
  if atB l i 38 then
    if atB l (i + 1) 35 then
      if atB l (i + 2) 120 || atB l (i + 2) 88 then num l (i + 3) hexI 6 else num l (i + 2) digI 7
    else nam l (i + 1)
  else 0

theorem enters_inLetter : ∀ args w, (callFunc 24 args).run Try.prog w = .ok (.enter 24 args) w := enters_of Try.func24 (by kernel_rfl) rfl
theorem enters_inDigit : ∀ args w, (callFunc 25 args).run Try.prog w = .ok (.enter 25 args) w := enters_of Try.func25 (by kernel_rfl) rfl
theorem enters_inHex : ∀ args w, (callFunc 26 args).run Try.prog w = .ok (.enter 26 args) w := enters_of Try.func26 (by kernel_rfl) rfl

set_option maxHeartbeats 1000000 in
set_option maxRecDepth 100000 in
theorem inEntityEnd_any (p : Option Addr) (n c : Nat) (l : List UInt8) (i : Nat) (w : World) (h : Bs w p n l) (hn : n ≤ 1000000) (hi : i < n) :
    Calls Try.prog 13 #[.slice p n c, .int .i64 i] w fun e w' => e = .returned (.int .i64 (eEnd l i)) ∧ w = w' := by
  have hl := h.len
  have hr1 := le_run lettI l (i + 1)
  have hr1' := run_le lettI l (i + 1) (by omega)
  cases h38 : atB l i 38 with
  | false =>
    have hv : eEnd l i = 0 := by rw [eEnd, h38]; rfl
    have HV := Lib.hid hv
    clear hv hl
    go_enter Try.func13, Try.ntmps13
    go_wp2_with fail
    refine (inAt_any p n c l i _ 38 _ h rfl (by omega)).mono ?_
    rintro e w' ⟨rfl, rfl⟩
    go_wp2_with fail
    go_ret
    exact ⟨ret_int (by rw [HV.out]; rfl), rfl⟩
  | true =>
    cases h35 : atB l (i + 1) 35 with
    | false =>
      have hv : eEnd l i = nam l (i + 1) := by rw [eEnd, h38, h35]; rfl
      have HV := Lib.hid hv
      clear hv
      obtain ⟨K, hK⟩ : ∃ K, K = run lettI l (i + 1) := ⟨_, rfl⟩
      have r1 := fun w' j (h' : Bs w' p n l) (hj : j = ((i + 1 : Nat) : Int)) => inRun_any lettI 24 #[] (fun x w => inLetter_any x w) enters_inLetter p n c l (i + 1) j w' h' hj (by omega) (by omega)
      rw [← hK] at hr1 hr1'
      simp only [← hK] at r1
      have hr2 := le_run digI l K
      have hr2' := run_le digI l K (by omega)
      obtain ⟨E, hE⟩ : ∃ E, E = run digI l K := ⟨_, rfl⟩
      have r2 := fun w' j (h' : Bs w' p n l) (hj : j = ((K : Nat) : Int)) => inRun_any digI 25 #[] (fun x w => inDigit_any x w) enters_inDigit p n c l K j w' h' hj (by omega) (by omega)
      rw [← hE] at hr2 hr2'
      simp only [← hE] at r2
      have hnam : nam l (i + 1) = if K < i + 1 + 2 ∨ i + 1 + 31 < K ∨ K + 2 < E then 0 else semi l E := by rw [nam, ← hK, ← hE]
      have HN := Lib.hid hnam
      have R1 := Lib.hid r1
      have R2 := Lib.hid r2
      clear hK hE hnam r1 r2
      rw [hl] at hr1' hr2'
      clear hl
      go_enter Try.func13, Try.ntmps13
      go_wp2_with fail
      refine (inAt_any p n c l i _ 38 _ h rfl (by omega)).mono ?_
      rintro e w' ⟨rfl, rfl⟩
      go_wp2_with fail
      refine (inAt_any p n c l (i + 1) _ 35 _ h (by omega) (by omega)).mono ?_
      rintro e w' ⟨rfl, rfl⟩
      go_wp2_with fail
      refine (R1.out _ _ h (by omega)).mono ?_
      rintro e w' ⟨rfl, rfl⟩
      go_wp2_with fail
      refine (R2.out _ _ h (by omega)).mono ?_
      rintro e w' ⟨rfl, rfl⟩
      by_cases hbad : K < i + 1 + 2 ∨ i + 1 + 31 < K ∨ K + 2 < E
      · go_wp2_with fail
        all_goals go_ret
        all_goals exact ⟨ret_int (by rw [HV.out, HN.out, if_pos hbad]; rfl), rfl⟩
      · have hg : semi l E = nam l (i + 1) := by rw [HN.out, if_neg hbad]
        have HG := Lib.hid hg
        clear hg
        go_wp2_with fail
        refine (inAt_any p n c l E _ 59 _ h rfl (by omega)).mono ?_
        rintro e w' ⟨rfl, rfl⟩
        cases h59 : atB l E 59 with
        | true =>
          go_wp2_with fail
          go_ret
          exact ⟨ret_int (by rw [HV.out, ← HG.out, semi, if_pos h59]; rfl), rfl⟩
        | false =>
          go_wp2_with fail
          go_ret
          exact ⟨ret_int (by rw [HV.out, ← HG.out, semi, if_neg (by rw [h59]; simp)]; rfl), rfl⟩
    | true =>
      cases h120 : atB l (i + 2) 120 with
      | true =>
        have hv : eEnd l i = num l (i + 3) hexI 6 := by rw [eEnd, h38, h35]; simp [h120]
        have HV := Lib.hid hv
        clear hv
        have hr2 := le_run hexI l (i + 3)
        obtain ⟨E, hE⟩ : ∃ E, E = run hexI l (i + 3) := ⟨_, rfl⟩
        have r2 := fun w' j (h' : Bs w' p n l) (hj : j = ((i + 3 : Nat) : Int)) => inRun_any hexI 26 #[] (fun x w => inHex_any x w) enters_inHex p n c l (i + 3) j w' h' hj (by omega) (by omega)
        have hr3 : E ≤ i + 3 + n := by
          rw [hE, run]
          have := span_le hexI (l.drop (i + 3))
          rw [List.length_drop, hl] at this
          omega
        rw [← hE] at hr2
        simp only [← hE] at r2
        have hnum : num l (i + 3) hexI 6 = if E < i + 3 + 1 ∨ i + 3 + 6 < E then 0 else semi l E := by rw [num, ← hE]
        have HN := Lib.hid hnum
        have R2 := Lib.hid r2
        clear hE hnum r2 hl
        go_enter Try.func13, Try.ntmps13
        go_wp2_with fail
        refine (inAt_any p n c l i _ 38 _ h rfl (by omega)).mono ?_
        rintro e w' ⟨rfl, rfl⟩
        go_wp2_with fail
        refine (inAt_any p n c l (i + 1) _ 35 _ h (by omega) (by omega)).mono ?_
        rintro e w' ⟨rfl, rfl⟩
        go_wp2_with fail
        refine (inAt_any p n c l (i + 2) _ 120 _ h (by omega) (by omega)).mono ?_
        rintro e w' ⟨rfl, rfl⟩
        go_wp2_with fail
        refine (R2.out _ _ h (by omega)).mono ?_
        rintro e w' ⟨rfl, rfl⟩
        by_cases hbad : E < i + 3 + 1 ∨ i + 3 + 6 < E
        · go_wp2_with fail
          all_goals go_ret
          all_goals exact ⟨ret_int (by rw [HV.out, HN.out, if_pos hbad]; rfl), rfl⟩
        · have hg : semi l E = num l (i + 3) hexI 6 := by rw [HN.out, if_neg hbad]
          have HG := Lib.hid hg
          clear hg
          go_wp2_with fail
          refine (inAt_any p n c l E _ 59 _ h rfl (by omega)).mono ?_
          rintro e w' ⟨rfl, rfl⟩
          cases h59 : atB l E 59 with
          | true =>
            go_wp2_with fail
            go_ret
            exact ⟨ret_int (by rw [HV.out, ← HG.out, semi, if_pos h59]; rfl), rfl⟩
          | false =>
            go_wp2_with fail
            go_ret
            exact ⟨ret_int (by rw [HV.out, ← HG.out, semi, if_neg (by rw [h59]; simp)]; rfl), rfl⟩
      | false =>
        cases h88 : atB l (i + 2) 88 with
        | true =>
          have hv : eEnd l i = num l (i + 3) hexI 6 := by rw [eEnd, h38, h35]; simp [h88]
          have HV := Lib.hid hv
          clear hv
          have hr2 := le_run hexI l (i + 3)
          obtain ⟨E, hE⟩ : ∃ E, E = run hexI l (i + 3) := ⟨_, rfl⟩
          have r2 := fun w' j (h' : Bs w' p n l) (hj : j = ((i + 3 : Nat) : Int)) => inRun_any hexI 26 #[] (fun x w => inHex_any x w) enters_inHex p n c l (i + 3) j w' h' hj (by omega) (by omega)
          have hr3 : E ≤ i + 3 + n := by
            rw [hE, run]
            have := span_le hexI (l.drop (i + 3))
            rw [List.length_drop, hl] at this
            omega
          rw [← hE] at hr2
          simp only [← hE] at r2
          have hnum : num l (i + 3) hexI 6 = if E < i + 3 + 1 ∨ i + 3 + 6 < E then 0 else semi l E := by rw [num, ← hE]
          have HN := Lib.hid hnum
          have R2 := Lib.hid r2
          clear hE hnum r2 hl
          go_enter Try.func13, Try.ntmps13
          go_wp2_with fail
          refine (inAt_any p n c l i _ 38 _ h rfl (by omega)).mono ?_
          rintro e w' ⟨rfl, rfl⟩
          go_wp2_with fail
          refine (inAt_any p n c l (i + 1) _ 35 _ h (by omega) (by omega)).mono ?_
          rintro e w' ⟨rfl, rfl⟩
          go_wp2_with fail
          refine (inAt_any p n c l (i + 2) _ 120 _ h (by omega) (by omega)).mono ?_
          rintro e w' ⟨rfl, rfl⟩
          go_wp2_with fail
          refine (inAt_any p n c l (i + 2) _ 88 _ h (by omega) (by omega)).mono ?_
          rintro e w' ⟨rfl, rfl⟩
          go_wp2_with fail
          refine (R2.out _ _ h (by omega)).mono ?_
          rintro e w' ⟨rfl, rfl⟩
          by_cases hbad : E < i + 3 + 1 ∨ i + 3 + 6 < E
          · go_wp2_with fail
            all_goals go_ret
            all_goals exact ⟨ret_int (by rw [HV.out, HN.out, if_pos hbad]; rfl), rfl⟩
          · have hg : semi l E = num l (i + 3) hexI 6 := by rw [HN.out, if_neg hbad]
            have HG := Lib.hid hg
            clear hg
            go_wp2_with fail
            refine (inAt_any p n c l E _ 59 _ h rfl (by omega)).mono ?_
            rintro e w' ⟨rfl, rfl⟩
            cases h59 : atB l E 59 with
            | true =>
              go_wp2_with fail
              go_ret
              exact ⟨ret_int (by rw [HV.out, ← HG.out, semi, if_pos h59]; rfl), rfl⟩
            | false =>
              go_wp2_with fail
              go_ret
              exact ⟨ret_int (by rw [HV.out, ← HG.out, semi, if_neg (by rw [h59]; simp)]; rfl), rfl⟩
        | false =>
          have hv : eEnd l i = num l (i + 2) digI 7 := by rw [eEnd, h38, h35]; simp [h120, h88]
          have HV := Lib.hid hv
          clear hv
          have hr2 := le_run digI l (i + 2)
          obtain ⟨E, hE⟩ : ∃ E, E = run digI l (i + 2) := ⟨_, rfl⟩
          have r2 := fun w' j (h' : Bs w' p n l) (hj : j = ((i + 2 : Nat) : Int)) => inRun_any digI 25 #[] (fun x w => inDigit_any x w) enters_inDigit p n c l (i + 2) j w' h' hj (by omega) (by omega)
          have hr3 : E ≤ i + 2 + n := by
            rw [hE, run]
            have := span_le digI (l.drop (i + 2))
            rw [List.length_drop, hl] at this
            omega
          rw [← hE] at hr2
          simp only [← hE] at r2
          have hnum : num l (i + 2) digI 7 = if E < i + 2 + 1 ∨ i + 2 + 7 < E then 0 else semi l E := by rw [num, ← hE]
          have HN := Lib.hid hnum
          have R2 := Lib.hid r2
          clear hE hnum r2 hl
          go_enter Try.func13, Try.ntmps13
          go_wp2_with fail
          refine (inAt_any p n c l i _ 38 _ h rfl (by omega)).mono ?_
          rintro e w' ⟨rfl, rfl⟩
          go_wp2_with fail
          refine (inAt_any p n c l (i + 1) _ 35 _ h (by omega) (by omega)).mono ?_
          rintro e w' ⟨rfl, rfl⟩
          go_wp2_with fail
          refine (inAt_any p n c l (i + 2) _ 120 _ h (by omega) (by omega)).mono ?_
          rintro e w' ⟨rfl, rfl⟩
          go_wp2_with fail
          refine (inAt_any p n c l (i + 2) _ 88 _ h (by omega) (by omega)).mono ?_
          rintro e w' ⟨rfl, rfl⟩
          go_wp2_with fail
          refine (R2.out _ _ h (by omega)).mono ?_
          rintro e w' ⟨rfl, rfl⟩
          by_cases hbad : E < i + 2 + 1 ∨ i + 2 + 7 < E
          · go_wp2_with fail
            all_goals go_ret
            all_goals exact ⟨ret_int (by rw [HV.out, HN.out, if_pos hbad]; rfl), rfl⟩
          · have hg : semi l E = num l (i + 2) digI 7 := by rw [HN.out, if_neg hbad]
            have HG := Lib.hid hg
            clear hg
            go_wp2_with fail
            refine (inAt_any p n c l E _ 59 _ h rfl (by omega)).mono ?_
            rintro e w' ⟨rfl, rfl⟩
            cases h59 : atB l E 59 with
            | true =>
              go_wp2_with fail
              go_ret
              exact ⟨ret_int (by rw [HV.out, ← HG.out, semi, if_pos h59]; rfl), rfl⟩
            | false =>
              go_wp2_with fail
              go_ret
              exact ⟨ret_int (by rw [HV.out, ← HG.out, semi, if_neg (by rw [h59]; simp)]; rfl), rfl⟩

end Go.Proofs.Ytkjbmekpcjfenaa
