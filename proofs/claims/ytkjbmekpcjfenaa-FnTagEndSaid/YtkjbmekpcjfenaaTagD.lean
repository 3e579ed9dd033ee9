/- Tags: the values of attributes, walked. Condition: lengths are bounded. -/
import Derived.Test.YtkjbmekpcjfenaaTagC
namespace Go.Proofs.Ytkjbmekpcjfenaa
open Go.ChangeShapes Go.WideShapes Go.ChangeAt Go.RowKit

/-- the end of a value with an equals sign behind an attribute's name, or the name's end -/
def aval (l : List UInt8) (i : Nat) : Nat :=
  if atB l (run blkI l i) 61 then
    if atB l (run blkI l (run blkI l i + 1)) 34 || atB l (run blkI l (run blkI l i + 1)) 39 then
      if run (neI (bat l (run blkI l (run blkI l i + 1)))) l (run blkI l (run blkI l i + 1) + 1) < l.length then run (neI (bat l (run blkI l (run blkI l i + 1)))) l (run blkI l (run blkI l i + 1) + 1) + 1 else i
    else if run blkI l (run blkI l i + 1) < run valI l (run blkI l (run blkI l i + 1)) then run valI l (run blkI l (run blkI l i + 1)) else i
  else i
theorem aval_no {l : List UInt8} {i J : Nat} (hJ : J = run blkI l i) (h : atB l J 61 = false) : aval l i = i := by
  rw [aval, ← hJ, h]; rfl
theorem aval_quote {l : List UInt8} {i J K : Nat} (hJ : J = run blkI l i) (h : atB l J 61 = true) (hK : K = run blkI l (J + 1)) (hq : (atB l K 34 || atB l K 39) = true) : aval l i = if run (neI (bat l K)) l (K + 1) < l.length then run (neI (bat l K)) l (K + 1) + 1 else i := by
  rw [aval, ← hJ, h, ← hK, hq]; rfl
theorem aval_val {l : List UInt8} {i J K : Nat} (hJ : J = run blkI l i) (h : atB l J 61 = true) (hK : K = run blkI l (J + 1)) (hq : (atB l K 34 || atB l K 39) = false) : aval l i = if K < run valI l K then run valI l K else i := by
  rw [aval, ← hJ, h, ← hK, hq]; rfl

theorem atB_lt {l : List UInt8} {i : Nat} {c : Int} (h : i < l.length) : atB l i c = (bat l i == c) := by simp [atB, h]
theorem atB_ge {l : List UInt8} {i : Nat} {c : Int} (h : l.length ≤ i) : atB l i c = false := by simp [atB]; omega

set_option maxHeartbeats 2000000 in
set_option maxRecDepth 100000 in
theorem zzAttributeValue_any (p : Option Addr) (n c : Nat) (l : List UInt8) (i : Nat) (j : Int) (w : World) (h : Bs w p n l) (hj : j = i) (hn : n ≤ 1000000) (hi : i ≤ n) :
    Calls Try.prog 49 #[.slice p n c, .int .i64 j] w fun e w' => e = .returned (.int .i64 (aval l i)) ∧ w = w' := by
  subst hj
  have hl := h.len
  obtain ⟨J, hJ⟩ : ∃ J, J = run blkI l i := ⟨_, rfl⟩
  have j1 := le_run blkI l i
  have j2 := run_le blkI l i (by omega)
  have cJ := zzBlanks_any p n c l i i w h rfl hn (by omega)
  rw [← hJ] at j1 j2 cJ
  have CJ := Lib.hid cJ
  have HJ := Lib.hid hJ
  clear cJ hJ
  rw [hl] at j2
  by_cases hJn : J < n
  · obtain ⟨b, o, rfl, _, hc⟩ := h.cells (by omega)
    have cj := hc J hJn
    cases h61 : (bat l J == 61) with
    | false =>
      have r61 : (bat l J != 61) = true := by simp only [bne, h61, Bool.not_false]
      have hv : aval l i = i := aval_no HJ.out (by rw [atB_lt (by omega)]; exact h61)
      have HV := Lib.hid hv
      clear hv hl hc
      go_enter Try.func49, Try.ntmps49
      go_wp2_with (go_at_call 35; refine CJ.out.mono ?_; rintro e w' ⟨rfl, rfl⟩)
      go_ret
      exact ⟨ret_int (by rw [HV.out]), rfl⟩
    | true =>
      have r61 : (bat l J != 61) = false := by simp only [bne, h61, Bool.not_true]
      have a61 : Hid (atB l J 61 = true) := Lib.hid (by rw [atB_lt (by omega)]; exact h61)
      obtain ⟨K, hK⟩ : ∃ K, K = run blkI l (J + 1) := ⟨_, rfl⟩
      have k1 := le_run blkI l (J + 1)
      have k2 := run_le blkI l (J + 1) (by omega)
      have cK := fun j' (hj' : j' = ((J + 1 : Nat) : Int)) => zzBlanks_any (some ⟨b, o, none⟩) n c l (J + 1) j' w h hj' hn (by omega)
      rw [← hK] at k1 k2
      simp only [← hK] at cK
      have CK := Lib.hid cK
      have HK := Lib.hid hK
      clear cK hK
      rw [hl] at k2
      by_cases hKn : K < n
      · have ck := hc K hKn
        by_cases hq : bat l K = 34 ∨ bat l K = 39
        · have hv := aval_quote HJ.out a61.out HK.out (by rw [atB_lt (by omega), atB_lt (by omega)]; rcases hq with e | e <;> simp [e])
          have HV := Lib.hid hv
          clear hv
          have q1 : ∃ b1 b2 : Bool, (bat l K == 34) = b1 ∧ (b1 = false → (bat l K == 39) = true) := by
            rcases hq with e | e
            · exact ⟨true, true, by simp [e], by simp⟩
            · exact ⟨false, true, by simp [e], by simp [e]⟩
          obtain ⟨b1, _, q34, q39⟩ := q1
          clear hq
          cases b1
          all_goals
            first
              | (have q39' := q39 rfl; clear q39)
              | clear q39
            go_enter Try.func49, Try.ntmps49
            go_wp2_with fail
            refine CJ.out.mono ?_
            rintro e w' ⟨rfl, rfl⟩
            go_wp2_with fail
            refine (CK.out _ (by omega)).mono ?_
            rintro e w' ⟨rfl, rfl⟩
            go_wp2_with fail
            go_loop [5] (fun t => ∃ k : Nat, t = .int .i64 k ∧ run (neI (bat l K)) l (K + 1) = run (neI (bat l K)) l k ∧ k ≤ n) (fun t => n - (intOf t).toNat)
            case atStart => exact ⟨K + 1, by go_num, rfl, by omega⟩
            case round =>
              obtain ⟨k, rfl, hr, hk⟩ := hrel
              have HR := Lib.hid hr
              clear hr
              have HL := Lib.hid hl
              by_cases hlt : k < n
              · have c1 := hc k hlt
                cases hp : (bat l k == bat l K) with
                | false =>
                  have HP : Hid (neI (bat l K) (bat l k) = true) := Lib.hid (by simp only [neI, bne, hp, Bool.not_false])
                  go_wp2_with fail
                  go_round
                  case rel => exact ⟨k + 1, by go_num, by rw [HR.out, run_step (by rw [HL.out]; exact hlt) HP.out], by omega⟩
                  case measure => simp [intOf]; omega
                | true =>
                  have HP : Hid (neI (bat l K) (bat l k) = false) := Lib.hid (by simp only [neI, bne, hp, Bool.not_true])
                  go_wp2_with fail
                  go_ret
                  exact ⟨ret_int (by rw [HV.out, HR.out, run_stop HP.out, if_pos (by rw [HL.out]; exact hlt)]; omega), rfl⟩
              · go_wp2_with fail
                go_ret
                exact ⟨ret_int (by rw [HV.out, HR.out, run_end (by rw [HL.out]; omega), if_neg (by rw [HL.out]; omega)]), rfl⟩
        · have q34 : (bat l K == 34) = false := by simp; exact fun e => hq (Or.inl e)
          have q39 : (bat l K == 39) = false := by simp; exact fun e => hq (Or.inr e)
          have hv := aval_val HJ.out a61.out HK.out (by rw [atB_lt (by omega), atB_lt (by omega), q34, q39]; rfl)
          have HV := Lib.hid hv
          clear hv hq
          go_enter Try.func49, Try.ntmps49
          go_wp2_with fail
          refine CJ.out.mono ?_
          rintro e w' ⟨rfl, rfl⟩
          go_wp2_with fail
          refine (CK.out _ (by omega)).mono ?_
          rintro e w' ⟨rfl, rfl⟩
          go_wp2_with fail
          go_loop [5] (fun t => ∃ k : Nat, t = .int .i64 k ∧ run valI l K = run valI l k ∧ k ≤ n ∧ K ≤ k) (fun t => n - (intOf t).toNat)
          case atStart => exact ⟨K, by go_num, rfl, by omega, Nat.le_refl _⟩
          case round =>
            obtain ⟨k, rfl, hr, hk, hKk⟩ := hrel
            have HR := Lib.hid hr
            clear hr
            have HL := Lib.hid hl
            have fin : ∀ V : Nat, run valI l K = V → aval l i = if K < V then V else i := fun V hV => by rw [← hV]; exact HV.out
            have FIN := Lib.hid fin
            clear fin
            by_cases hlt : k < n
            · have c1 := hc k hlt
              clear hc q34 q39
              by_cases h32 : 32 < bat l k
              · skip
                by_cases e34 : bat l k = 34
                · have q34 : (bat l k == 34) = true := by simp [e34]
                  have r34 : (bat l k != 34) = false := by simp [e34]
                  clear e34
                  have HP : Hid (valI (bat l k) = false) := Lib.hid (by simp [valI, r34])
                  have hfv := FIN.out k (by rw [HR.out, run_stop HP.out])
                  have HFV := Lib.hid hfv
                  clear hfv
                  by_cases hkK : k = K
                  · have hkK' : ((k : Int) == (K : Int)) = true := by simp; omega
                    have HE := Lib.hid hkK
                    clear hkK
                    go_wp2_with fail
                    go_ret
                    exact ⟨ret_int (by rw [HFV.out, if_neg (by rw [HE.out]; omega)]), rfl⟩
                  · have hkK' : ((k : Int) == (K : Int)) = false := by simp; omega
                    go_wp2_with fail
                    go_ret
                    exact ⟨ret_int (by rw [HFV.out, if_pos (by omega)]), rfl⟩
                have q34 : (bat l k == 34) = false := by simp [e34]
                have r34 : (bat l k != 34) = true := by simp [e34]
                clear e34
                by_cases e39 : bat l k = 39
                · have q39 : (bat l k == 39) = true := by simp [e39]
                  have r39 : (bat l k != 39) = false := by simp [e39]
                  clear e39
                  have HP : Hid (valI (bat l k) = false) := Lib.hid (by simp [valI, r39])
                  have hfv := FIN.out k (by rw [HR.out, run_stop HP.out])
                  have HFV := Lib.hid hfv
                  clear hfv
                  by_cases hkK : k = K
                  · have hkK' : ((k : Int) == (K : Int)) = true := by simp; omega
                    have HE := Lib.hid hkK
                    clear hkK
                    go_wp2_with fail
                    go_ret
                    exact ⟨ret_int (by rw [HFV.out, if_neg (by rw [HE.out]; omega)]), rfl⟩
                  · have hkK' : ((k : Int) == (K : Int)) = false := by simp; omega
                    go_wp2_with fail
                    go_ret
                    exact ⟨ret_int (by rw [HFV.out, if_pos (by omega)]), rfl⟩
                have q39 : (bat l k == 39) = false := by simp [e39]
                have r39 : (bat l k != 39) = true := by simp [e39]
                clear e39
                by_cases e61 : bat l k = 61
                · have q61 : (bat l k == 61) = true := by simp [e61]
                  have r61 : (bat l k != 61) = false := by simp [e61]
                  clear e61
                  have HP : Hid (valI (bat l k) = false) := Lib.hid (by simp [valI, r61])
                  have hfv := FIN.out k (by rw [HR.out, run_stop HP.out])
                  have HFV := Lib.hid hfv
                  clear hfv
                  by_cases hkK : k = K
                  · have hkK' : ((k : Int) == (K : Int)) = true := by simp; omega
                    have HE := Lib.hid hkK
                    clear hkK
                    go_wp2_with fail
                    go_ret
                    exact ⟨ret_int (by rw [HFV.out, if_neg (by rw [HE.out]; omega)]), rfl⟩
                  · have hkK' : ((k : Int) == (K : Int)) = false := by simp; omega
                    go_wp2_with fail
                    go_ret
                    exact ⟨ret_int (by rw [HFV.out, if_pos (by omega)]), rfl⟩
                have q61 : (bat l k == 61) = false := by simp [e61]
                have r61 : (bat l k != 61) = true := by simp [e61]
                clear e61
                by_cases e60 : bat l k = 60
                · have q60 : (bat l k == 60) = true := by simp [e60]
                  have r60 : (bat l k != 60) = false := by simp [e60]
                  clear e60
                  have HP : Hid (valI (bat l k) = false) := Lib.hid (by simp [valI, r60])
                  have hfv := FIN.out k (by rw [HR.out, run_stop HP.out])
                  have HFV := Lib.hid hfv
                  clear hfv
                  by_cases hkK : k = K
                  · have hkK' : ((k : Int) == (K : Int)) = true := by simp; omega
                    have HE := Lib.hid hkK
                    clear hkK
                    go_wp2_with fail
                    go_ret
                    exact ⟨ret_int (by rw [HFV.out, if_neg (by rw [HE.out]; omega)]), rfl⟩
                  · have hkK' : ((k : Int) == (K : Int)) = false := by simp; omega
                    go_wp2_with fail
                    go_ret
                    exact ⟨ret_int (by rw [HFV.out, if_pos (by omega)]), rfl⟩
                have q60 : (bat l k == 60) = false := by simp [e60]
                have r60 : (bat l k != 60) = true := by simp [e60]
                clear e60
                by_cases e62 : bat l k = 62
                · have q62 : (bat l k == 62) = true := by simp [e62]
                  have r62 : (bat l k != 62) = false := by simp [e62]
                  clear e62
                  have HP : Hid (valI (bat l k) = false) := Lib.hid (by simp [valI, r62])
                  have hfv := FIN.out k (by rw [HR.out, run_stop HP.out])
                  have HFV := Lib.hid hfv
                  clear hfv
                  by_cases hkK : k = K
                  · have hkK' : ((k : Int) == (K : Int)) = true := by simp; omega
                    have HE := Lib.hid hkK
                    clear hkK
                    go_wp2_with fail
                    go_ret
                    exact ⟨ret_int (by rw [HFV.out, if_neg (by rw [HE.out]; omega)]), rfl⟩
                  · have hkK' : ((k : Int) == (K : Int)) = false := by simp; omega
                    go_wp2_with fail
                    go_ret
                    exact ⟨ret_int (by rw [HFV.out, if_pos (by omega)]), rfl⟩
                have q62 : (bat l k == 62) = false := by simp [e62]
                have r62 : (bat l k != 62) = true := by simp [e62]
                clear e62
                by_cases e96 : bat l k = 96
                · have q96 : (bat l k == 96) = true := by simp [e96]
                  have r96 : (bat l k != 96) = false := by simp [e96]
                  clear e96
                  have HP : Hid (valI (bat l k) = false) := Lib.hid (by simp [valI, r96])
                  have hfv := FIN.out k (by rw [HR.out, run_stop HP.out])
                  have HFV := Lib.hid hfv
                  clear hfv
                  by_cases hkK : k = K
                  · have hkK' : ((k : Int) == (K : Int)) = true := by simp; omega
                    have HE := Lib.hid hkK
                    clear hkK
                    go_wp2_with fail
                    go_ret
                    exact ⟨ret_int (by rw [HFV.out, if_neg (by rw [HE.out]; omega)]), rfl⟩
                  · have hkK' : ((k : Int) == (K : Int)) = false := by simp; omega
                    go_wp2_with fail
                    go_ret
                    exact ⟨ret_int (by rw [HFV.out, if_pos (by omega)]), rfl⟩
                have q96 : (bat l k == 96) = false := by simp [e96]
                have r96 : (bat l k != 96) = true := by simp [e96]
                clear e96
                have HP : Hid (valI (bat l k) = true) := Lib.hid (by simp [valI, h32, r34, r39, r61, r60, r62, r96])
                go_wp2_with fail
                go_round
                case rel => exact ⟨k + 1, by go_num, by rw [HR.out, run_step (by rw [HL.out]; exact hlt) HP.out], by omega, by omega⟩
                case measure => simp [intOf]; omega
              · have HP : Hid (valI (bat l k) = false) := Lib.hid (by simp [valI, h32])
                have hfv := FIN.out k (by rw [HR.out, run_stop HP.out])
                have HFV := Lib.hid hfv
                clear hfv
                by_cases hkK : k = K
                · have hkK' : ((k : Int) == (K : Int)) = true := by simp; omega
                  have HE := Lib.hid hkK
                  clear hkK
                  go_wp2_with fail
                  go_ret
                  exact ⟨ret_int (by rw [HFV.out, if_neg (by rw [HE.out]; omega)]), rfl⟩
                · have hkK' : ((k : Int) == (K : Int)) = false := by simp; omega
                  go_wp2_with fail
                  go_ret
                  exact ⟨ret_int (by rw [HFV.out, if_pos (by omega)]), rfl⟩
            · have hfv := FIN.out k (by rw [HR.out, run_end (by rw [HL.out]; omega)])
              have HFV := Lib.hid hfv
              clear hfv
              by_cases hkK : k = K
              · have hkK' : ((k : Int) == (K : Int)) = true := by simp; omega
                have HE := Lib.hid hkK
                clear hkK
                go_wp2_with fail
                go_ret
                exact ⟨ret_int (by rw [HFV.out, if_neg (by rw [HE.out]; omega)]), rfl⟩
              · have hkK' : ((k : Int) == (K : Int)) = false := by simp; omega
                go_wp2_with fail
                go_ret
                exact ⟨ret_int (by rw [HFV.out, if_pos (by omega)]), rfl⟩
      · have hv := aval_val HJ.out a61.out HK.out (by rw [atB_ge (by omega), atB_ge (by omega)]; rfl)
        have hv2 : aval l i = i := by rw [hv, run_end (by omega), if_neg (by omega)]
        have HV := Lib.hid hv2
        clear hv hv2 hl hc
        go_enter Try.func49, Try.ntmps49
        go_wp2_with fail
        refine CJ.out.mono ?_
        rintro e w' ⟨rfl, rfl⟩
        go_wp2_with fail
        refine (CK.out _ (by omega)).mono ?_
        rintro e w' ⟨rfl, rfl⟩
        go_wp2_with fail
        go_ret
        exact ⟨ret_int (by rw [HV.out]), rfl⟩
  · have hv : aval l i = i := aval_no HJ.out (by rw [atB_ge (by omega)])
    have HV := Lib.hid hv
    clear hv hl
    go_enter Try.func49, Try.ntmps49
    go_wp2_with (go_at_call 35; refine CJ.out.mono ?_; rintro e w' ⟨rfl, rfl⟩)
    go_ret
    exact ⟨ret_int (by rw [HV.out]), rfl⟩

end Go.Proofs.Ytkjbmekpcjfenaa
