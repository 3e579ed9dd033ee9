/- Tags: blackfriday.zzCommentEnd walked. Condition: lengths are bounded. -/
import Derived.Test.YtkjbmekpcjfenaaTagH
namespace Go.Proofs.Ytkjbmekpcjfenaa
open Go.ChangeShapes Go.WideShapes Go.ChangeAt Go.RowKit

theorem bat_ext {l k : List UInt8} (h : l.length = k.length) (hb : ∀ i, i < k.length → bat l i = bat k i) : l = k := by
  apply List.ext_getElem h
  intro i h1 h2
  have := hb i h2
  unfold bat at this
  simp only [List.getD, List.getElem?_eq_getElem h1, List.getElem?_eq_getElem h2, Option.getD_some] at this
  apply UInt8.toNat_inj.1
  omega
theorem bat_take (l : List UInt8) (m i : Nat) (h : i < m) : bat (l.take m) i = bat l i := by
  unfold bat
  simp only [List.getD, List.getElem?_take, if_pos h]
theorem bat_drop (l : List UInt8) (m i : Nat) : bat (l.drop m) i = bat l (m + i) := by
  unfold bat
  simp only [List.getD, List.getElem?_drop]
theorem begins_all {l k : List UInt8} (h : k.length ≤ l.length) : begins l k = decide (∀ i, i < k.length → bat l i = bat k i) := by
  rw [begins_of_le h, Bool.eq_iff_iff, beq_iff_eq, decide_eq_true_eq]
  constructor
  · intro e i hi
    rw [← bat_take l k.length i hi, e]
  · intro hb
    refine bat_ext (by rw [List.length_take]; omega) fun i hi => ?_
    rw [bat_take l k.length i hi]
    exact hb i hi
theorem begins_two (l : List UInt8) (k : Nat) (x y : UInt8) (h : k + 2 ≤ l.length) : begins (l.drop k) [x, y] = (bat l k == (x.toNat : Int) && bat l (k + 1) == (y.toNat : Int)) := by
  rw [begins_all (by rw [List.length_drop]; simp; omega), Bool.eq_iff_iff]
  simp only [decide_eq_true_eq, Bool.and_eq_true, beq_iff_eq]
  constructor
  · intro hb
    have h0 := hb 0 (by simp)
    have h1 := hb 1 (by simp)
    rw [bat_drop] at h0 h1
    exact ⟨h0, h1⟩
  · rintro ⟨h0, h1⟩ i hi
    rw [bat_drop]
    match i, hi with
    | 0, _ => exact h0
    | 1, _ => exact h1
theorem begins_three (l : List UInt8) (k : Nat) (x y z : UInt8) (h : k + 3 ≤ l.length) : begins (l.drop k) [x, y, z] = (bat l k == (x.toNat : Int) && bat l (k + 1) == (y.toNat : Int) && bat l (k + 2) == (z.toNat : Int)) := by
  rw [begins_all (by rw [List.length_drop]; simp; omega), Bool.eq_iff_iff]
  simp only [decide_eq_true_eq, Bool.and_eq_true, beq_iff_eq]
  constructor
  · intro hb
    have h0 := hb 0 (by simp)
    have h1 := hb 1 (by simp)
    have h2 := hb 2 (by simp)
    rw [bat_drop] at h0 h1 h2
    exact ⟨⟨h0, h1⟩, h2⟩
  · rintro ⟨⟨h0, h1⟩, h2⟩ i hi
    rw [bat_drop]
    match i, hi with
    | 0, _ => exact h0
    | 1, _ => exact h1
    | 2, _ => exact h2

/-- is there the shortest comment -/
def com7 (l : List UInt8) : Bool := decide (7 ≤ l.length) && bat l 4 == 45 && bat l 5 == 45 && bat l 6 == 62
def comS (l : List UInt8) : Nat := if atB l 4 45 then 5 else 4
def comF (l : List UInt8) (o : Option Nat) : Nat := match o with
  | some k => if atB l (k + 2) 62 then k + 3 else 0
  | none => 0
/-- the end of a comment (0: none) -/
def com (l : List UInt8) : Nat :=
  if com7 l then 7 else if l.length ≤ comS l ∨ bat l (comS l) = 62 ∨ bat l (comS l) = 45 then 0 else comF l (fnd l [45, 45] (l.length + 1) (comS l + 1))

set_option maxHeartbeats 2000000 in
set_option maxRecDepth 100000 in
theorem zzCommentEnd_any (p : Option Addr) (n c : Nat) (l : List UInt8) (w : World) (h : Bs w p n l) (hn : n ≤ 1000000) (h4 : 4 ≤ n) :
    Calls Try.prog 46 #[.slice p n c] w fun e w' => e = .returned (.int .i64 (com l)) ∧ w = w' := by
  obtain ⟨b, o, rfl, _, hc⟩ := h.cells (by omega)
  have HL := Lib.hid h.len
  have HC := Lib.hid hc
  clear hc
  go_enter Try.func46, Try.ntmps46
  go_upto_region 1 with fail
  go_cut [24] (fun s wx => s = .bool (com7 l) ∧ wx = w)
  case first =>
    by_cases h7 : 7 ≤ n
    · have c4 := HC.out 4 (by omega)
      have c5 := HC.out 5 (by omega)
      have c6 := HC.out 6 (by omega)
      have hv : com7 l = (bat l 4 == 45 && bat l 5 == 45 && bat l 6 == 62) := by rw [com7, HL.out]; simp [h7]
      have HV := Lib.hid hv
      clear hv
      cases e4 : (bat l 4 == 45) with
      | false =>
        go_wp2_with fail
        go_meet
        exact ⟨by rw [HV.out, e4]; rfl, rfl⟩
      | true =>
        cases e5 : (bat l 5 == 45) with
        | false =>
          go_wp2_with fail
          go_meet
          exact ⟨by rw [HV.out, e4, e5]; rfl, rfl⟩
        | true =>
          go_wp2_with fail
          go_meet
          exact ⟨by rw [HV.out, e4, e5]; rfl, rfl⟩
    · have hv : com7 l = false := by rw [com7, HL.out]; simp [h7]
      have HV := Lib.hid hv
      clear hv
      go_wp2_with fail
      go_meet
      exact ⟨by rw [HV.out], rfl⟩
  case rest =>
    obtain ⟨rfl, rfl⟩ := hcut
    cases h7 : com7 l with
    | true =>
      have hv : com l = 7 := by rw [com, h7]; rfl
      have HV := Lib.hid hv
      clear hv
      go_wp2_with fail
      go_ret
      exact ⟨ret_int (by rw [HV.out]; rfl), rfl⟩
    | false =>
      obtain ⟨S, hS⟩ : ∃ S, S = comS l := ⟨_, rfl⟩
      have hv : com l = if l.length ≤ S ∨ bat l S = 62 ∨ bat l S = 45 then 0 else comF l (fnd l [45, 45] (l.length + 1) (S + 1)) := by rw [com, h7, ← hS]; rfl
      have hSb : 4 ≤ S ∧ S ≤ 5 := by rw [hS, comS]; split <;> omega
      have HS := Lib.hid hS
      have HV := Lib.hid hv
      clear hv hS h7
      obtain ⟨hS1, hS2⟩ := hSb
      go_upto_region 4 with fail
      go_cut [35] (fun s wx => s = .bool (atB l 4 45) ∧ wx = wc)
      case first =>
        by_cases h5 : 4 < n
        · have c4 := HC.out 4 h5
          have ha : atB l 4 45 = (bat l 4 == 45) := atB_lt (by rw [HL.out]; exact h5)
          have HA := Lib.hid ha
          clear ha
          go_wp2_with fail
          go_meet
          exact ⟨by rw [HA.out], rfl⟩
        · have ha : atB l 4 45 = false := atB_ge (by rw [HL.out]; omega)
          have HA := Lib.hid ha
          clear ha
          go_wp2_with fail
          go_meet
          exact ⟨by rw [HA.out], rfl⟩
      case rest =>
       rename_i w1
       obtain ⟨rfl, rfl⟩ := hcut
       go_upto_if 35 with fail
       go_cut [3] (fun s wx => s = .int .i64 S ∧ wx = wc)
       case first =>
        cases e4 : atB l 4 45 with
        | true =>
          have HS5 : Hid (S = 5) := Lib.hid (by rw [HS.out, comS, e4]; rfl)
          go_wp2_with fail
          go_meet
          exact ⟨by rw [HS5.out]; rfl, rfl⟩
        | false =>
          have HS5 : Hid (S = 4) := Lib.hid (by rw [HS.out, comS, e4]; rfl)
          go_wp2_with fail
          go_meet
          exact ⟨by rw [HS5.out]; rfl, rfl⟩
       case rest =>
        rename_i w0
        obtain ⟨rfl, rfl⟩ := hcut
        by_cases hSn : S < n
        · have cS := HC.out S hSn
          have hSn' : decide (n ≤ S) = false := by simp; omega
          by_cases e62 : bat l S = 62
          · have q62 : (bat l S == 62) = true := by simp [e62]
            have hv2 : com l = 0 := by rw [HV.out, if_pos (Or.inr (Or.inl e62))]
            have HV2 := Lib.hid hv2
            clear hv2 e62
            go_wp2_with fail
            go_ret
            exact ⟨ret_int (by rw [HV2.out]; rfl), rfl⟩
          · have q62 : (bat l S == 62) = false := by simp [e62]
            by_cases e45 : bat l S = 45
            · have q45 : (bat l S == 45) = true := by simp [e45]
              have hv2 : com l = 0 := by rw [HV.out, if_pos (Or.inr (Or.inr e45))]
              have HV2 := Lib.hid hv2
              clear hv2 e45 e62
              go_wp2_with fail
              go_ret
              exact ⟨ret_int (by rw [HV2.out]; rfl), rfl⟩
            · have q45 : (bat l S == 45) = false := by simp [e45]
              obtain ⟨R, hR⟩ : ∃ R, R = fnd l [45, 45] (l.length + 1) (S + 1) := ⟨_, rfl⟩
              have hv2 : com l = comF l R := by
                rw [HV.out, if_neg (by rw [HL.out]; rintro (e | e | e); exact absurd e (by omega); exact e62 e; exact e45 e), ← hR]
              have HV2 := Lib.hid hv2
              have HR0 := Lib.hid hR
              clear hv2 e45 e62 hR
              go_wp2_with fail
              go_loopg [3] (n + 1) (fun gf t wx => ∃ k : Nat, t = .int .i64 k ∧ R = fnd l [45, 45] gf k ∧ n + 1 ≤ k + gf ∧ k ≤ 2000000 ∧ wx = wc)
              case atStart => exact ⟨S + 1, by go_num, by rw [HR0.out, HL.out], by omega, by omega, rfl⟩
              case round =>
                obtain ⟨k, rfl, hr, hg, hk, rfl⟩ := hrel
                have HR := Lib.hid hr
                clear hr
                by_cases hle : k + 1 < n
                · obtain ⟨g', rfl⟩ : ∃ g', gk = g' + 1 := ⟨gk - 1, by omega⟩
                  have c0 := HC.out k (by omega)
                  have c1 := HC.out (k + 1) hle
                  have hst : fnd l [45, 45] (g' + 1) k = if (bat l k == 45 && bat l (k + 1) == 45) then some k else fnd l [45, 45] g' (k + 1) := by
                    rw [fnd, if_pos (by rw [HL.out]; simp; omega), begins_two l k 45 45 (by rw [HL.out]; omega)]
                    rfl
                  have HST := Lib.hid hst
                  clear hst
                  cases e0 : (bat l k == 45) with
                  | false =>
                    have HF : Hid (R = fnd l [45, 45] g' (k + 1)) := Lib.hid (by rw [HR.out, HST.out, e0]; rfl)
                    go_wp2_with fail
                    go_roundg g'
                    case measure => omega
                    case rel => exact ⟨k + 1, by go_num, HF.out, by omega, by omega, rfl⟩
                  | true =>
                    cases e1 : (bat l (k + 1) == 45) with
                    | false =>
                      have HF : Hid (R = fnd l [45, 45] g' (k + 1)) := Lib.hid (by rw [HR.out, HST.out, e0, e1]; rfl)
                      go_wp2_with fail
                      go_roundg g'
                      case measure => omega
                      case rel => exact ⟨k + 1, by go_num, HF.out, by omega, by omega, rfl⟩
                    | true =>
                      have HF : Hid (com l = if atB l (k + 2) 62 then k + 3 else 0) := Lib.hid (by rw [HV2.out, HR.out, HST.out, e0, e1]; rfl)
                      by_cases h2 : k + 2 < n
                      · have c2 := HC.out (k + 2) h2
                        have ha : atB l (k + 2) 62 = (bat l (k + 2) == 62) := atB_lt (by rw [HL.out]; exact h2)
                        have HA := Lib.hid ha
                        clear ha
                        cases e2 : (bat l (k + 2) == 62) with
                        | true =>
                          go_wp2_with fail
                          go_ret
                          exact ⟨ret_int (by rw [HF.out, HA.out, e2]; rfl), rfl⟩
                        | false =>
                          go_wp2_with fail
                          go_ret
                          exact ⟨ret_int (by rw [HF.out, HA.out, e2]; rfl), rfl⟩
                      · have ha : atB l (k + 2) 62 = false := atB_ge (by rw [HL.out]; omega)
                        have HA := Lib.hid ha
                        clear ha
                        go_wp2_with fail
                        go_ret
                        exact ⟨ret_int (by rw [HF.out, HA.out]; rfl), rfl⟩
                · have hfin : com l = 0 := by rw [HV2.out, HR.out, fnd_out _ _ _ _ (by rw [HL.out]; simp; omega)]; rfl
                  have HF := Lib.hid hfin
                  clear hfin
                  go_wp2_with fail
                  go_ret
                  exact ⟨ret_int (by rw [HF.out]; rfl), rfl⟩
        · have hv2 : com l = 0 := by rw [HV.out, if_pos (Or.inl (by rw [HL.out]; omega))]
          have HV2 := Lib.hid hv2
          clear hv2
          go_wp2_with fail
          go_ret
          exact ⟨ret_int (by rw [HV2.out]; rfl), rfl⟩

end Go.Proofs.Ytkjbmekpcjfenaa
