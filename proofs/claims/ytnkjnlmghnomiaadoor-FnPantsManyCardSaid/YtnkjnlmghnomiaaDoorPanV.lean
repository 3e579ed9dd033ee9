/- Smart punctuation: what a piece becomes, walked. Condition: the piece is a right one. -/
import Derived.Test.YtnkjnlmghnomiaaDoorPanU
namespace Go.Proofs.YtnkjnlmghnomiaaDoor
open Go.ChangeShapes Go.WideShapes Go.ChangeAt Go.RowKit

theorem dashL_len (F : Cfg) (v : Nat) (bl : Bool) : (dashL F v bl).length ≤ 20 := by
  unfold dashL
  have := hyL_len v
  repeat' split
  all_goals simp [mdashL, ndashL]
  omega

set_option maxHeartbeats 8000000 in
set_option maxRecDepth 100000 in
theorem meant_any (F : Cfg) (flags : Int) (P : Pc) (w : World) (hk : OkP P) (f0 : 0 ≤ flags) (f1 : flags ≤ 1000000) (hF : F = cfgOf flags) :
    Calls Tryd.prog 18 #[pcVal P, .int .i64 flags] w fun e w' => e = .returned (.string (str (mnL F P))) ∧ Below w.heap.size w w' := by
  have hF2 := hF
  rw [cfgOf_has flags f0 f1] at hF2
  have hv := hk.var
  have HW := Lib.hid (fun w1 => written_any P w1 hk)
  have HDs := Lib.hid (fun bl w => dashed_any F flags (P.var : Int) bl w (by omega) (by omega) f0 f1 hF)
  have KA := Lib.hid (fun w => has_any flags 65536 w f0 f1 (by simp))
  have KN := Lib.hid (fun w => has_any flags 131072 w f0 f1 (by simp))
  have KF := Lib.hid (fun w => has_any flags 8192 w f0 f1 (by simp))
  have eA : hasB flags 65536 = F.ang := by rw [hF2]
  have eN : hasB flags 131072 = F.nbsp := by rw [hF2]
  have eF : hasB flags 8192 = F.frac := by rw [hF2]
  rw [eA] at KA
  rw [eN] at KN
  rw [eF] at KF
  clear hF hF2 eA eN eF f0 f1
  have za := hk.za
  have hzb := hk.zb
  have hkind := hk.kind
  have hn := hk.n2
  have hm := hk.m2
  clear hk
  obtain ⟨kind, v, a, b, n, m⟩ := P
  unfold pcVal at HW ⊢
  simp only at za hzb hkind hv hn hm HW HDs ⊢
  rw [Int.toNat_natCast] at HDs
  have HB := Lib.hid (show ∀ o : Obj, Below w.heap.size w (w.alloc o) from fun o => (Below.refl _ _).alloc (Nat.le_refl _) o)
  have HBW := Lib.hid (show ∀ (o : Obj) (w2 : World), Below (w.alloc o).heap.size (w.alloc o) w2 → Below w.heap.size w w2 from fun o w2 h => ((Below.refl _ _).alloc (Nat.le_refl _) o).trans (h.mono (by simp)))
  have HE := Lib.hid (fun w => pantEnd_any (v : Int) w (by omega) (by omega))
  have HS := Lib.hid (fun w => pantSign_any (v : Int) w (by omega) (by omega))
  have HN := Lib.hid (fun w1 (h : In w n m w1) => h.decimal (k := n) hn)
  have HM := Lib.hid (fun w1 (h : In w n m w1) => h.decimal (k := m) hm)
  rw [Int.toNat_natCast] at HE HS
  have ze : (str (endL v)).size ≤ 2 := by rw [str_size]; exact endL_len v
  have zd1 : (str (dashL F v true)).size ≤ 20 := by rw [str_size]; exact dashL_len F v true
  have zd2 : (str (dashL F v false)).size ≤ 20 := by rw [str_size]; exact dashL_len F v false
  have zn : (str (decL n)).size ≤ 3 := by rw [str_size]; exact decL_len hn
  have zm : (str (decL m)).size ≤ 3 := by rw [str_size]; exact decL_len hm
  obtain ⟨ang, nbsp, dash, latex, frac⟩ := F
  have hk : kind = 1 ∨ kind = 2 ∨ kind = 5 ∨ kind = 8 ∨ kind = 9 ∨ kind = 0 ∨ kind = 10 ∨ kind = 13 ∨ kind = 14 ∨ kind = 3 ∨ kind = 4 ∨ kind = 6 ∨ kind = 7 ∨ kind = 11 ∨ kind = 12 := by omega
  clear hkind
  cases ang
  all_goals
    rcases hk with h | h | h | h | h | h
    iterate 5
      · clear hzb
        subst h
        go_enter Tryd.func18, Tryd.ntmps18
        go_wp2_with fail
        refine (KA.out _).mono ?_
        rintro e w1 ⟨rfl, rfl⟩
        go_wp2_with fail
        go_ret
        exact ⟨ret_str (by simp [lit_str, str_app, mnL, quoL, quoK, hellipL]), HB.out _⟩
    rcases h with h | h | h | h | h
    iterate 4
      · clear hzb
        subst h
        go_enter Tryd.func18, Tryd.ntmps18
        go_wp2_with fail
        refine (KA.out _).mono ?_
        rintro e w1 ⟨rfl, rfl⟩
        go_wp2_with fail
        refine (HW.out _).mono ?_
        rintro e w2 ⟨rfl, hb2⟩
        have HB2 := Lib.hid (HBW.out _ _ hb2)
        clear hb2
        go_wp2_with fail
        go_ret
        exact ⟨ret_str (by simp [mnL]), HB2.out⟩
    rcases h with h | h | h | h | h | h
    · clear hzb
      subst h
      cases nbsp
      all_goals
        go_enter Tryd.func18, Tryd.ntmps18
        go_wp2_with fail
        refine (KA.out _).mono ?_
        rintro e w1 ⟨rfl, rfl⟩
        go_wp2_with fail
        refine (KN.out _).mono ?_
        rintro e w1 ⟨rfl, rfl⟩
        go_wp2_with fail
        go_ret
        exact ⟨ret_str (by simp [lit_str, str_app, mnL, quoL, quoK, nbspL]), HB.out _⟩
    · clear hzb
      subst h
      go_enter Tryd.func18, Tryd.ntmps18
      go_wp2_with fail
      refine (KA.out _).mono ?_
      rintro e w1 ⟨rfl, rfl⟩
      go_upto_region 14 with fail
      go_quiet ((go_at_call 28; exact Calls.quiet_of_same ((HE.out _).mono fun _ _ h => ⟨h.1, h.2.symm⟩)))
      go_wp2_with fail
      go_ret
      exact ⟨ret_str (by simp [lit_str, str_app, mnL, rsquoL]), Below.drewN (HB.out _) _⟩
    · clear hzb
      subst h
      go_enter Tryd.func18, Tryd.ntmps18
      go_wp2_with fail
      refine (KA.out _).mono ?_
      rintro e w1 ⟨rfl, rfl⟩
      go_wp2_with fail
      refine (HDs.out _ _).mono ?_
      rintro e w1 ⟨rfl, rfl⟩
      go_wp2_with fail
      go_ret
      exact ⟨ret_str (by simp [mnL]), HB.out _⟩
    · subst h
      have zb := hzb rfl
      clear hzb
      go_enter Tryd.func18, Tryd.ntmps18
      go_wp2_with fail
      refine (KA.out _).mono ?_
      rintro e w1 ⟨rfl, rfl⟩
      go_upto_region 20 with fail
      go_quiet ((go_at_call 34; exact Calls.quiet_of_same ((HDs.out _ _).mono fun _ _ h => ⟨h.1, h.2.symm⟩)))
      go_wp2_with fail
      go_ret
      exact ⟨ret_str (by simp [lit_str, str_app, mnL]), Below.drewN (HB.out _) _⟩
    · clear hzb
      subst h
      go_enter Tryd.func18, Tryd.ntmps18
      go_wp2_with fail
      refine (KA.out _).mono ?_
      rintro e w1 ⟨rfl, rfl⟩
      go_wp2_with fail
      refine (HS.out _).mono ?_
      rintro e w1 ⟨rfl, rfl⟩
      go_wp2_with fail
      go_ret
      exact ⟨ret_str (by simp [mnL]), HB.out _⟩
    · clear hzb
      subst h
      cases frac
      · by_cases hc : (n = 1 ∧ m = 2) ∨ (n = 1 ∧ m = 4) ∨ (n = 3 ∧ m = 4)
        · rcases hc with ⟨rfl, rfl⟩ | ⟨rfl, rfl⟩ | ⟨rfl, rfl⟩
          all_goals
            go_enter Tryd.func18, Tryd.ntmps18
            go_wp2_with fail
            refine (KA.out _).mono ?_
            rintro e w1 ⟨rfl, rfl⟩
            go_wp2_with fail
            refine (KF.out _).mono ?_
            rintro e w1 ⟨rfl, rfl⟩
            go_wp2_with fail
            go_ret
            exact ⟨ret_str rfl, HB.out _⟩
        · have HMn := Lib.hid (show ∀ ang, mnL (Cfg.mk ang nbsp dash latex false) (Pc.mk 12 v a b n m) = wrL (Pc.mk 12 v a b n m) by
            intro ang
            simp (decide := true) only [mnL, fractL, wrL, if_true, if_false]
            rw [if_neg (by omega), if_neg (by omega), if_neg (by omega)])
          by_cases n1 : n = 1
          · subst n1
            have m2 : ((m : Int) == 2) = false := by simp; omega
            have m4 : ((m : Int) == 4) = false := by simp; omega
            clear hc
            go_enter Tryd.func18, Tryd.ntmps18
            go_wp2_with fail
            refine (KA.out _).mono ?_
            rintro e w1 ⟨rfl, rfl⟩
            go_wp2_with fail
            refine (KF.out _).mono ?_
            rintro e w1 ⟨rfl, rfl⟩
            go_wp2_with fail
            refine (HW.out _).mono ?_
            rintro e w2 ⟨rfl, hb2⟩
            have HB2 := Lib.hid (HBW.out _ _ hb2)
            clear hb2
            go_wp2_with fail
            go_ret
            exact ⟨ret_str (by rw [HMn.out]), HB2.out⟩
          · have n1' : ((n : Int) == 1) = false := by simp; omega
            by_cases n3 : n = 3
            · subst n3
              have m4 : ((m : Int) == 4) = false := by simp; omega
              clear hc
              go_enter Tryd.func18, Tryd.ntmps18
              go_wp2_with fail
              refine (KA.out _).mono ?_
              rintro e w1 ⟨rfl, rfl⟩
              go_wp2_with fail
              refine (KF.out _).mono ?_
              rintro e w1 ⟨rfl, rfl⟩
              go_wp2_with fail
              refine (HW.out _).mono ?_
              rintro e w2 ⟨rfl, hb2⟩
              have HB2 := Lib.hid (HBW.out _ _ hb2)
              clear hb2
              go_wp2_with fail
              go_ret
              exact ⟨ret_str (by rw [HMn.out]), HB2.out⟩
            · have n3' : ((n : Int) == 3) = false := by simp; omega
              clear hc n1 n3
              go_enter Tryd.func18, Tryd.ntmps18
              go_wp2_with fail
              refine (KA.out _).mono ?_
              rintro e w1 ⟨rfl, rfl⟩
              go_wp2_with fail
              refine (KF.out _).mono ?_
              rintro e w1 ⟨rfl, rfl⟩
              go_wp2_with fail
              refine (HW.out _).mono ?_
              rintro e w2 ⟨rfl, hb2⟩
              have HB2 := Lib.hid (HBW.out _ _ hb2)
              clear hb2
              go_wp2_with fail
              go_ret
              exact ⟨ret_str (by rw [HMn.out]), HB2.out⟩
      · go_enter Tryd.func18, Tryd.ntmps18
        go_wp2_with fail
        refine (KA.out _).mono ?_
        rintro e w1 ⟨rfl, rfl⟩
        go_wp2_with fail
        refine (KF.out _).mono ?_
        rintro e w1 ⟨rfl, rfl⟩
        go_upto_region 30 with fail
        have HIn := Lib.hid (In.new w n m (.int .i64 12) (.int .i64 (v : Int)) (.string (str a)) (.string (str b)))
        go_region_with (first
          | (go_at_call 31
             with_reducible refine (HN.out _ ?_).mono ?_
             first | exact HIn.out | exact hin
             rintro e w1 ⟨rfl, hin⟩
             have c4 := hin.1
             have c5 := hin.2.1)
          | (go_at_call 31
             with_reducible refine (HM.out _ ?_).mono ?_
             first | exact HIn.out | exact hin
             rintro e w2 ⟨rfl, hin⟩
             have c4 := hin.1
             have c5 := hin.2.1))
        all_goals
          go_wp2_with fail
          go_ret
          exact ⟨(show Ending.returned (.string (str [60, 115, 117, 112, 62] ++ str (decL n) ++ str [60, 47, 115, 117, 112, 62, 38, 102, 114, 97, 115, 108, 59, 60, 115, 117, 98, 62] ++ str (decL m) ++ str [60, 47, 115, 117, 98, 62])) = _ from
            ret_str (by simp [str_app, mnL, fractL, supL, fraslL, subL])), hin.2.2.1⟩

end Go.Proofs.YtnkjnlmghnomiaaDoor
