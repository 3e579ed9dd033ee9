/- Fences: zzTrimSpace walked over ASCII. Condition: all bytes are below 128. -/
import Derived.Test.YtcpkkmpckdcbjaaDoorFenB
namespace Go.Proofs.YtcpkkmpckdcbjaaDoor
open Go.ChangeShapes Go.WideShapes Go.ChangeAt Go.RowKit

theorem space_any (n : Int) (w : World) (h0 : 0 ≤ n) (h1 : n < 128) : Calls Tryd.prog 21 #[.int .i32 n] w fun e w' => e = .returned (.bool (spaceI n)) ∧ w = w' := by
  go_enter Tryd.func21, Tryd.ntmps21
  go_wp2
  all_goals go_ret
  all_goals (refine ⟨ret_bool ?_, rfl⟩; unfold spaceI blankI vertI)
  all_goals (simp_all; try omega)

theorem some_list {s : ByteArray} (h : 0 < s.size) : s.toList.isEmpty = false ∧ ¬ s.toList = [] := by
  have h1 : s.toList.length = s.size := by rw [Lib.toList_data, Lib.size_eq]
  have h2 : ¬ s.toList = [] := fun e => by rw [e] at h1; simp at h1; omega
  exact ⟨by simpa using h2, h2⟩
theorem byte_bat (s : ByteArray) (k : Nat) (h : k < s.size) : ((s[k].toNat : Nat) : Int) = bat s.data.toList k := by
  unfold bat
  have h2 : k < s.data.toList.length := by rw [← Lib.size_eq]; exact h
  have e : s[k] = s.data.toList[k] := rfl
  rw [e]
  simp only [List.getD, List.getElem?_eq_getElem h2, Option.getD_some]

set_option maxHeartbeats 1000000 in
set_option maxRecDepth 100000 in
theorem first_any (s : ByteArray) (w : World) (h : 0 < s.size) (hb : ((s[0].toNat : Nat) : Int) < 128) (hn : s.size ≤ 1000000) :
    Calls Tryd.prog 20 #[.string s] w fun e w' => e = .returned (.tuple #[.int .i32 (s[0].toNat : Nat), .int .i64 1]) ∧ w = w' := by
  obtain ⟨h1, h2⟩ := some_list h
  go_enter Tryd.func20, Tryd.ntmps20
  go_wp2_with fail
  go_ret2
  exact ⟨rfl, rfl⟩

set_option maxHeartbeats 1000000 in
set_option maxRecDepth 100000 in
theorem last_any (s : ByteArray) (w : World) (h : 0 < s.size) (hb : ((s[s.size - 1].toNat : Nat) : Int) < 128) (hn : s.size ≤ 1000000) :
    Calls Tryd.prog 22 #[.string s] w fun e w' => e = .returned (.tuple #[.int .i32 (s[s.size - 1].toNat : Nat), .int .i64 1]) ∧ w = w' := by
  go_enter Tryd.func22, Tryd.ntmps22
  go_wp2_with fail
  go_ret2
  exact ⟨rfl, rfl⟩

/-- what a string holds -/
def Str (s : ByteArray) (l : List UInt8) : Prop := s.data.toList = l
theorem Str.size {s : ByteArray} {l : List UInt8} (h : Str s l) : s.size = l.length := by
  rw [← h, Lib.size_eq]
theorem Str.eq {s : ByteArray} {l : List UInt8} (h : Str s l) : s = str l := by
  apply ByteArray.ext
  apply Array.toList_inj.1
  exact h

set_option maxHeartbeats 2000000 in
set_option maxRecDepth 100000 in
theorem trimSpace_any (s : ByteArray) (l : List UInt8) (w : World) (hs : Str s l) (ha : ∀ k, k < l.length → bat l k < 128) (hn : l.length ≤ 1000000) :
    Calls Tryd.prog 18 #[.string s] w fun e w' => e = .returned (.string (str (trim spaceI l))) ∧ w = w' := by
  have HS := Lib.hid hs
  have HA := Lib.hid ha
  clear hs ha
  go_enter Tryd.func18, Tryd.ntmps18
  go_wp2_with fail
  go_loopg [0] l.length (fun gf t wx => ∃ (s1 : ByteArray) (j : Nat), t = .string s1 ∧ j ≤ l.length ∧ gf = l.length - j ∧ Str s1 (l.drop j) ∧ trimL spaceI l = trimL spaceI (l.drop j) ∧ wx = w)
  case atStart => exact ⟨s, 0, rfl, Nat.zero_le _, rfl, HS.out, rfl, rfl⟩
  case round =>
    obtain ⟨s1, j, rfl, hj, rfl, h1, h2, rfl⟩ := hrel
    have hsz : s1.size = l.length - j := by rw [h1.size, List.length_drop]
    have H1 := Lib.hid h1
    have H2 := Lib.hid h2
    clear h1 h2
    by_cases hlt : j < l.length
    · have hb0 : ((s1[0].toNat : Nat) : Int) = bat l j := by
        rw [byte_bat s1 0 (by omega), show s1.data.toList = l.drop j from H1.out]
        simp [bat]
      have hlt128 := HA.out j hlt
      have hF := Lib.hid (first_any s1 wr (by omega) (by rw [hb0]; exact hlt128) (by omega))
      have hS := Lib.hid (space_any (bat l j) wr (bat_nonneg l j) hlt128)
      have HB := Lib.hid hb0
      go_wp2_with fail
      refine hF.out.mono ?_
      rw [HB.out]
      rintro e w1 ⟨rfl, rfl⟩
      clear hF
      cases hsp : spaceI (bat l j) with
      | true =>
        rw [hsp] at hS
        have HSP := Lib.hid hsp
        clear hsp
        go_wp2_with fail
        refine hS.out.mono ?_
        rintro e w1 ⟨rfl, rfl⟩
        go_wp2_with fail
        go_roundg (l.length - (j + 1))
        case measure => omega
        case rel =>
          refine ⟨_, j + 1, rfl, by omega, rfl, ?_, ?_, rfl⟩
          · show (s1.extract 1 (l.length - j)).data.toList = _
            rw [Lib.extract_data, show s1.data.toList = l.drop j from H1.out, List.drop_drop, List.take_of_length_le (by rw [List.length_drop]; omega)]
          · rw [H2.out]
            exact trimL_at hlt HSP.out
      | false =>
        rw [hsp] at hS
        have HSP := Lib.hid hsp
        clear hsp
        go_wp2_with fail
        refine hS.out.mono ?_
        rintro e w1 ⟨rfl, rfl⟩
        obtain ⟨X, hX⟩ : ∃ X, X = l.drop j := ⟨_, rfl⟩
        have hXl : X.length = l.length - j := by rw [hX, List.length_drop]
        have hX0 : trim spaceI l = trimR spaceI X := by
          unfold trim
          rw [H2.out, trimL_end hlt HSP.out, hX]
        have hX1 : Str s1 X := by rw [hX]; exact H1.out
        have hXa : ∀ k, k < X.length → bat X k < 128 := fun k hk => by
          have e : bat X k = bat l (j + k) := by rw [hX]; simp [bat]
          rw [e]
          exact HA.out (j + k) (by omega)
        have HX0 := Lib.hid hX0
        have HX1 := Lib.hid hX1
        have HXa := Lib.hid hXa
        clear hX hX0 hX1 hXa
        go_wp2_with fail
        go_loopg [0] X.length (fun gf t wx => ∃ (s2 : ByteArray) (m : Nat), t = .string s2 ∧ m ≤ X.length ∧ gf = m ∧ Str s2 (X.take m) ∧ trimR spaceI X = trimR spaceI (X.take m) ∧ wx = wr)
        case atStart => exact ⟨s1, X.length, rfl, Nat.le_refl _, rfl, by rw [List.take_length]; exact HX1.out, by rw [List.take_length], rfl⟩
        case round =>
          obtain ⟨s2, m, rfl, hm, rfl, h1, h2, rfl⟩ := hrel
          have hs2 : s2.size = gk := by rw [h1.size, List.length_take]; omega
          have H21 := Lib.hid h1
          have H22 := Lib.hid h2
          clear h1 h2
          by_cases hm0 : 0 < gk
          · have hlast : ((s2[s2.size - 1].toNat : Nat) : Int) = bat X (gk - 1) := by
              rw [byte_bat s2 (s2.size - 1) (by omega), show s2.data.toList = X.take gk from H21.out, hs2]
              have : gk - 1 < gk := by omega
              simp [bat, List.getElem?_take, this]
            have hl128 := HXa.out (gk - 1) (by omega)
            have hL := Lib.hid (last_any s2 wr (by omega) (by rw [hlast]; exact hl128) (by omega))
            have hS := Lib.hid (space_any (bat X (gk - 1)) wr (bat_nonneg X _) hl128)
            have HB := Lib.hid hlast
            clear hlast
            go_wp2_with fail
            refine hL.out.mono ?_
            rw [HB.out]
            rintro e w1 ⟨rfl, rfl⟩
            clear hL
            cases hsp : spaceI (bat X (gk - 1)) with
            | true =>
              rw [hsp] at hS
              have HSP := Lib.hid hsp
              clear hsp
              go_wp2_with fail
              refine hS.out.mono ?_
              rintro e w1 ⟨rfl, rfl⟩
              go_wp2_with fail
              go_roundg (gk - 1)
              case measure => omega
              case rel =>
                refine ⟨_, gk - 1, rfl, by omega, rfl, ?_, ?_, rfl⟩
                · show (s2.extract 0 (gk - 1)).data.toList = _
                  rw [Lib.extract_data, show s2.data.toList = X.take gk from H21.out, List.drop_zero, List.take_take]
                  congr 1
                  omega
                · rw [H22.out]
                  have := trimR_at (P := spaceI) (l := X) (m := gk - 1) (by omega) HSP.out
                  rw [show gk - 1 + 1 = gk by omega] at this
                  exact this
            | false =>
              rw [hsp] at hS
              have HSP := Lib.hid hsp
              clear hsp
              go_wp2_with fail
              refine hS.out.mono ?_
              rintro e w1 ⟨rfl, rfl⟩
              go_wp2_with fail
              go_ret
              refine ⟨?_, rfl⟩
              have := trimR_end (P := spaceI) (l := X) (m := gk - 1) (by omega) HSP.out
              rw [show gk - 1 + 1 = gk by omega] at this
              have e : str (trim spaceI l) = s2 := by rw [HX0.out, H22.out, this]; exact H21.out.eq.symm
              rw [e]
              rfl
          · have hz : gk = 0 := by omega
            subst hz
            go_wp2_with fail
            go_ret
            refine ⟨?_, rfl⟩
            have e : str (trim spaceI l) = s2 := by rw [HX0.out, H22.out, H21.out.eq]; rfl
            rw [e]
            rfl
    · have hje : j = l.length := by omega
      obtain ⟨X, hX⟩ : ∃ X, X = l.drop j := ⟨_, rfl⟩
      have hXl : X.length = l.length - j := by rw [hX, List.length_drop]
      have hX0 : trim spaceI l = trimR spaceI X := by
        unfold trim
        rw [H2.out, hX, List.drop_of_length_le (by omega)]; rfl
      have hX1 : Str s1 X := by rw [hX]; exact H1.out
      have hXa : ∀ k, k < X.length → bat X k < 128 := fun k hk => by
        have e : bat X k = bat l (j + k) := by rw [hX]; simp [bat]
        rw [e]
        exact HA.out (j + k) (by omega)
      have HX0 := Lib.hid hX0
      have HX1 := Lib.hid hX1
      have HXa := Lib.hid hXa
      clear hX hX0 hX1 hXa
      go_wp2_with fail
      go_loopg [0] X.length (fun gf t wx => ∃ (s2 : ByteArray) (m : Nat), t = .string s2 ∧ m ≤ X.length ∧ gf = m ∧ Str s2 (X.take m) ∧ trimR spaceI X = trimR spaceI (X.take m) ∧ wx = wr)
      case atStart => exact ⟨s1, X.length, rfl, Nat.le_refl _, rfl, by rw [List.take_length]; exact HX1.out, by rw [List.take_length], rfl⟩
      case round =>
        obtain ⟨s2, m, rfl, hm, rfl, h1, h2, rfl⟩ := hrel
        have hs2 : s2.size = gk := by rw [h1.size, List.length_take]; omega
        have H21 := Lib.hid h1
        have H22 := Lib.hid h2
        clear h1 h2
        by_cases hm0 : 0 < gk
        · have hlast : ((s2[s2.size - 1].toNat : Nat) : Int) = bat X (gk - 1) := by
            rw [byte_bat s2 (s2.size - 1) (by omega), show s2.data.toList = X.take gk from H21.out, hs2]
            have : gk - 1 < gk := by omega
            simp [bat, List.getElem?_take, this]
          have hl128 := HXa.out (gk - 1) (by omega)
          have hL := Lib.hid (last_any s2 wr (by omega) (by rw [hlast]; exact hl128) (by omega))
          have hS := Lib.hid (space_any (bat X (gk - 1)) wr (bat_nonneg X _) hl128)
          have HB := Lib.hid hlast
          clear hlast
          go_wp2_with fail
          refine hL.out.mono ?_
          rw [HB.out]
          rintro e w1 ⟨rfl, rfl⟩
          clear hL
          cases hsp : spaceI (bat X (gk - 1)) with
          | true =>
            rw [hsp] at hS
            have HSP := Lib.hid hsp
            clear hsp
            go_wp2_with fail
            refine hS.out.mono ?_
            rintro e w1 ⟨rfl, rfl⟩
            go_wp2_with fail
            go_roundg (gk - 1)
            case measure => omega
            case rel =>
              refine ⟨_, gk - 1, rfl, by omega, rfl, ?_, ?_, rfl⟩
              · show (s2.extract 0 (gk - 1)).data.toList = _
                rw [Lib.extract_data, show s2.data.toList = X.take gk from H21.out, List.drop_zero, List.take_take]
                congr 1
                omega
              · rw [H22.out]
                have := trimR_at (P := spaceI) (l := X) (m := gk - 1) (by omega) HSP.out
                rw [show gk - 1 + 1 = gk by omega] at this
                exact this
          | false =>
            rw [hsp] at hS
            have HSP := Lib.hid hsp
            clear hsp
            go_wp2_with fail
            refine hS.out.mono ?_
            rintro e w1 ⟨rfl, rfl⟩
            go_wp2_with fail
            go_ret
            refine ⟨?_, rfl⟩
            have := trimR_end (P := spaceI) (l := X) (m := gk - 1) (by omega) HSP.out
            rw [show gk - 1 + 1 = gk by omega] at this
            have e : str (trim spaceI l) = s2 := by rw [HX0.out, H22.out, this]; exact H21.out.eq.symm
            rw [e]
            rfl
        · have hz : gk = 0 := by omega
          subst hz
          go_wp2_with fail
          go_ret
          refine ⟨?_, rfl⟩
          have e : str (trim spaceI l) = s2 := by rw [HX0.out, H22.out, H21.out.eq]; rfl
          rw [e]
          rfl

end Go.Proofs.YtcpkkmpckdcbjaaDoor
