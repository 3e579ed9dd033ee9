/- Fences: isFenceLine walked. Condition: the text ends its first line with a line feed, it is ASCII without other vertical space, and without braces where info strings are asked for. -/
import Derived.Test.YtcpkkmpckdcbjaaDoorFenC
import Derived.Deep.CutBlock
namespace Go.Proofs.YtcpkkmpckdcbjaaDoor
open Go.ChangeShapes Go.WideShapes Go.ChangeAt Go.RowKit

/-- a text with its first line's end -/
structure FL (l : List UInt8) (L : Nat) : Prop where
  lt : L < l.length
  nl : bat l L = 10
  non : ∀ i, i < L → bat l i ≠ 10
  asc : ∀ i, i < l.length → bat l i < 128
  vt : ∀ i, i < l.length → bat l i ≠ 11 ∧ bat l i ≠ 12 ∧ bat l i ≠ 13
  len : l.length ≤ 1000

theorem bat_take (l : List UInt8) (L i : Nat) (h : i < L) : bat (l.take L) i = bat l i := by
  simp [bat, List.getElem?_take, h]
theorem FL.lead {l : List UInt8} {L k : Nat} (h : FL l L) (h1 : k ≤ 3) (h3 : ∀ i, i < k → bat l i = 32) (h4 : k = 3 ∨ bat l k ≠ 32) : lead 3 (l.take L) = k ∧ k ≤ L := by
  have hlt := h.lt
  have hk : k ≤ L := by
    rcases Nat.lt_or_ge L k with hx | hx
    · have := h3 L hx
      rw [h.nl] at this
      exact absurd this (by decide)
    · exact hx
  refine ⟨lead_is h1 (by rw [List.length_take]; omega) (fun i hi => by rw [bat_take l L i (by omega)]; exact h3 i hi) ?_, hk⟩
  rcases Nat.lt_or_ge k L with hx | hx
  · rcases h4 with h4 | h4
    · exact Or.inl h4
    · exact Or.inr (Or.inr (by rw [bat_take l L k hx]; exact h4))
  · exact Or.inr (Or.inl (by rw [List.length_take]; omega))
theorem run_below {P : Int → Bool} {l : List UInt8} {L i : Nat} (hi : i ≤ L) (hp : P (bat l L) = false) : run P l i ≤ L := by
  rcases Nat.lt_or_ge L (run P l i) with hx | hx
  · have := (run_mid (P := P) hi hx).2
    rw [hp] at this
    cases this
  · exact hx

/-- the results of isFenceLine, and what it leaves -/
def fenceOut (L : Nat) : Option (List UInt8 × List UInt8) → Ending
  | none => .returned (.tuple #[.int .i64 0, .string ⟨#[]⟩])
  | some r => .returned (.tuple #[.int .i64 ((L + 1 : Nat) : Int), .string (str r.1)])
def fenceW (w : World) : Option Nat → Option (List UInt8 × List UInt8) → World
  | some bi, some r => w.setCell ⟨bi, 0, none⟩ (.string (str r.2))
  | _, _ => w
def fenceSaid (w : World) (L : Nat) (q : Option Nat) (r : Option (List UInt8 × List UInt8)) (e : Ending) (w' : World) : Prop := e = fenceOut L r ∧ w' = fenceW w q r
theorem fence_short {D : List UInt8} {ask : Bool} {ml : List UInt8} (h : D.length ≤ lead 3 D) : fence D ask ml = none := by
  simp only [fence]
  rw [if_pos h]
theorem fence_no {D : List UInt8} {ask : Bool} {ml : List UInt8} (h : (bat D (lead 3 D) == 126 || bat D (lead 3 D) == 96) = false) : fence D ask ml = none := by
  by_cases h1 : D.length ≤ lead 3 D
  · exact fence_short h1
  simp only [fence]
  rw [if_neg h1, if_pos h]
theorem fence_few {D : List UInt8} {ask : Bool} {ml : List UInt8} (h : run (eqI (bat D (lead 3 D))) D (lead 3 D) - lead 3 D < 3) : fence D ask ml = none := by
  by_cases h1 : D.length ≤ lead 3 D
  · exact fence_short h1
  by_cases h2 : (bat D (lead 3 D) == 126 || bat D (lead 3 D) == 96) = false
  · exact fence_no h2
  simp only [fence]
  rw [if_neg h1, if_neg h2, if_pos h]
theorem fence_other {D : List UInt8} {ask : Bool} {ml : List UInt8} (h : ml ≠ [] ∧ (D.take (run (eqI (bat D (lead 3 D))) D (lead 3 D))).drop (lead 3 D) ≠ ml) : fence D ask ml = none := by
  by_cases h1 : D.length ≤ lead 3 D
  · exact fence_short h1
  by_cases h2 : (bat D (lead 3 D) == 126 || bat D (lead 3 D) == 96) = false
  · exact fence_no h2
  by_cases h3 : run (eqI (bat D (lead 3 D))) D (lead 3 D) - lead 3 D < 3
  · exact fence_few h3
  simp only [fence]
  rw [if_neg h1, if_neg h2, if_neg h3, if_pos h]
theorem fence_yes {D : List UInt8} {ask : Bool} {ml : List UInt8} (h1 : lead 3 D < D.length) (h2 : (bat D (lead 3 D) == 126 || bat D (lead 3 D) == 96) = true) (h3 : 3 ≤ run (eqI (bat D (lead 3 D))) D (lead 3 D) - lead 3 D)
    (h4 : ¬ (ml ≠ [] ∧ (D.take (run (eqI (bat D (lead 3 D))) D (lead 3 D))).drop (lead 3 D) ≠ ml)) :
    fence D ask ml = if ask = false then (if run (eqI (bat D (lead 3 D))) D (lead 3 D) < D.length then none else some ((D.take (run (eqI (bat D (lead 3 D))) D (lead 3 D))).drop (lead 3 D), []))
      else some ((D.take (run (eqI (bat D (lead 3 D))) D (lead 3 D))).drop (lead 3 D), trim blankI (D.drop (run (eqI (bat D (lead 3 D))) D (lead 3 D)))) := by
  simp only [fence]
  rw [if_neg (by omega), if_neg (by rw [h2]; simp), if_neg (by omega), if_neg h4]

theorem fenceW_none (w : World) (q : Option Nat) : fenceW w q none = w := by cases q <;> rfl
def qv (q : Option Nat) : Value := .pointer (q.map fun bi => ⟨bi, 0, none⟩)

set_option maxHeartbeats 8000000 in
set_option maxRecDepth 100000 in
theorem isFence_any (p : Option Addr) (n c L : Nat) (l : List UInt8) (mk : ByteArray) (ml : List UInt8) (q : Option Nat) (w : World) (h : Bs w p n l) (hc : n ≤ c) (hcm : c ≤ maxLen) (hF : FL l L) (hm : Str mk ml) (hml : ml.length ≤ 1000000)
    (hq : ∀ bi, q = some bi → (∃ u, w.cell? ⟨bi, 0, none⟩ = some (.string u)) ∧ w.frozen? ⟨bi, 0, none⟩ = false ∧ ∀ i, i < n → bat l i ≠ 123) :
    Calls Tryd.prog 14 #[.slice p n c, qv q, .string mk] w (fenceSaid w L q (fence (l.take L) q.isSome ml)) := by
  have hn := h.len
  have hlt := hF.lt
  have hle := hF.len
  obtain ⟨b, o, rfl, hb, hcell⟩ := h.cells (by omega)
  have HF := Lib.hid hF
  have HM := Lib.hid hm
  have HBs := Lib.hid h
  have HC := Lib.hid hcell
  have HQ := Lib.hid hq
  have HL := Lib.hid hn
  clear h hF hm hcell hq
  go_enter Tryd.func14, Tryd.ntmps14
  go_upto_block 0 with fail
  go_cut [8] (fun t wx => ∃ i0 : Nat, t = .int .i64 i0 ∧ lead 3 (l.take L) = i0 ∧ i0 ≤ L ∧ wx = w)
  case first =>
    go_wp2_with fail
    go_loop [8] (fun t => ∃ k : Nat, k ≤ 3 ∧ t = .int .i64 k ∧ ∀ i, i < k → bat l i = 32) (fun t => 3 - (intOf t).toNat)
    case atStart => exact ⟨0, Nat.zero_le _, rfl, fun i hi => absurd hi (Nat.not_lt_zero i)⟩
    case round =>
      obtain ⟨i0, hi3, rfl, hsp⟩ := hrel
      have HSP := Lib.hid hsp
      clear hsp
      by_cases hgo : i0 < 3 ∧ bat l i0 = 32
      · have hin : i0 < n := by
          rcases Nat.lt_or_ge L i0 with hx | hx
          · have := HSP.out L hx
            rw [HF.out.nl] at this
            exact absurd this (by decide)
          · omega
        have ck := HC.out i0 hin
        rw [hgo.2] at ck
        have HG := Lib.hid hgo.2
        obtain ⟨hg3, _⟩ := hgo
        go_wp2_with fail
        go_round
        case rel =>
          refine ⟨i0 + 1, by omega, by go_num, fun i hi => ?_⟩
          by_cases e : i = i0
          · rw [e]; exact HG.out
          · exact HSP.out i (by omega)
        case measure => simp [intOf]; omega
      · obtain ⟨hld, hiL⟩ := HF.out.lead hi3 HSP.out (by omega)
        have HLd := Lib.hid hld
        have c0 := HC.out i0 (by omega)
        clear hld
        by_cases h3 : i0 < 3
        · have hbr : (bat l i0 == 32) = false := by
            have : ¬ bat l i0 = 32 := fun e => hgo ⟨h3, e⟩
            simpa using this
          clear hgo
          go_wp2_with fail
          go_meet
          exact ⟨i0, rfl, HLd.out, hiL, rfl⟩
        · clear hgo
          go_wp2_with fail
          go_meet
          exact ⟨i0, rfl, HLd.out, hiL, rfl⟩
  case rest =>
    obtain ⟨i0, rfl, hld, hiL, rfl⟩ := hcut
    have HLd := Lib.hid hld
    clear hld
    have c0 := HC.out i0 (by omega)
    have hDl : (l.take L).length = L := by rw [List.length_take]; omega
    have HDl := Lib.hid hDl
    clear hDl
    by_cases hiLe : i0 = L
    · subst hiLe
      have h10 : bat l i0 = 10 := HF.out.nl
      rw [h10] at c0
      have HV := Lib.hid (fence_short (D := l.take i0) (ask := q.isSome) (ml := ml) (by rw [HLd.out, HDl.out]; omega))
      clear h10
      go_wp2_with fail
      go_ret2
      exact ⟨by rw [HV.out]; rfl, by rw [HV.out, fenceW_none]⟩
    · have hbt := bat_take l L i0 (by omega)
      obtain ⟨ch, hch⟩ : ∃ ch, ch = bat l i0 := ⟨_, rfl⟩
      rw [← hch] at c0 hbt
      have hch0 := bat_nonneg l i0
      have hch1 := bat_lt l i0
      rw [← hch] at hch0 hch1
      have HCh := Lib.hid hch
      have HBt := Lib.hid hbt
      clear hch hbt
      go_upto_region 6 with fail
      go_cut [45] (fun s wx => s = .bool (!(ch == 126 || ch == 96)) ∧ wx = wc)
      case first =>
        cases h1 : (ch == 126) with
        | true =>
          have h1' : (ch != 126) = false := by simp only [bne, h1, Bool.not_true]
          go_wp2_with fail
          go_meet
          exact ⟨by rw [h1]; rfl, rfl⟩
        | false =>
          have h1' : (ch != 126) = true := by simp only [bne, h1, Bool.not_false]
          go_wp2_with fail
          go_meet
          exact ⟨by rw [h1]; rfl, rfl⟩
      case rest =>
        obtain ⟨rfl, rfl⟩ := hcut
        cases hB : (ch == 126 || ch == 96) with
        | false =>
          have HV := Lib.hid (fence_no (D := l.take L) (ask := q.isSome) (ml := ml) (by rw [HLd.out, HBt.out]; exact hB))
          clear hB
          go_wp2_with fail
          go_ret2
          exact ⟨by rw [HV.out]; rfl, by rw [HV.out, fenceW_none]⟩
        | true =>
          have hne10 : eqI ch (bat l L) = false := by
            rw [HF.out.nl]
            unfold eqI
            cases hx : ((10 : Int) == ch) with
            | false => rfl
            | true =>
              have : (10 : Int) = ch := by simpa using hx
              subst this
              exact absurd hB (by decide)
          have heL := run_below (P := eqI ch) (l := l) (L := L) (i := i0) hiL hne10
          have hei := le_run (eqI ch) l i0
          have hcut := span_cut (P := eqI ch) (l := l) (L := L) (i := i0) hiL (by omega) hne10
          have HY := Lib.hid hB
          have HCut := Lib.hid hcut
          have HNe := Lib.hid hne10
          clear hB hne10 hcut
          go_upto_block 2 with fail
          go_cut [8, 9] (fun s t wx => ∃ k : Nat, s = .int .i64 ((i0 + k : Nat) : Int) ∧ t = .int .i64 k ∧ run (eqI ch) l i0 = i0 + k ∧ wx = wc)
          case first =>
            go_wp2_with fail
            go_loop [8, 9] (fun s t => ∃ k : Nat, i0 + k ≤ L ∧ s = .int .i64 ((i0 + k : Nat) : Int) ∧ t = .int .i64 k ∧ run (eqI ch) l i0 = run (eqI ch) l (i0 + k)) (fun _ t => L - (intOf t).toNat)
            case atStart => exact ⟨0, by omega, rfl, rfl, rfl⟩
            case round =>
              obtain ⟨k, hk, rfl, rfl, hr⟩ := hrel
              have HR := Lib.hid hr
              clear hr
              have ck := HC.out (i0 + k) (by omega)
              by_cases heq : bat l (i0 + k) = ch
              · have hkL : i0 + k < L := by
                  rcases Nat.lt_or_ge (i0 + k) L with hx | hx
                  · exact hx
                  · have e : i0 + k = L := by omega
                    rw [e] at heq
                    have := HNe.out
                    rw [heq] at this
                    simp [eqI] at this
                have HE := Lib.hid heq
                rw [heq] at ck
                clear heq
                go_wp2_with fail
                go_round
                case rel => exact ⟨k + 1, by omega, by go_num, by go_num, by rw [HR.out, run_step (by omega) (by rw [HE.out]; simp [eqI])]; rfl⟩
                case measure => simp [intOf]; omega
              · have heq' : (bat l (i0 + k) == ch) = false := by simpa using heq
                have HE := Lib.hid heq'
                go_wp2_with fail
                go_meet
                exact ⟨k, rfl, rfl, by rw [HR.out, run_stop (by exact HE.out)], rfl⟩
          case rest =>
            obtain ⟨k, rfl, rfl, hk, rfl⟩ := hcut
            have hkL : i0 + k ≤ L := by rw [← hk]; exact heL
            have hrunD : run (eqI (bat (l.take L) (lead 3 (l.take L)))) (l.take L) (lead 3 (l.take L)) = i0 + k := by
              rw [HLd.out, HBt.out, HCut.out]
              exact hk
            have HRun := Lib.hid hrunD
            clear hk hrunD heL hei
            by_cases hk3 : k < 3
            · have HV := Lib.hid (fence_few (D := l.take L) (ask := q.isSome) (ml := ml) (by rw [HRun.out, HLd.out]; omega))
              go_wp2_with fail
              go_ret2
              exact ⟨by rw [HV.out]; rfl, by rw [HV.out, fenceW_none]⟩
            · obtain ⟨mark, hmark⟩ : ∃ mark, mark = (l.take (i0 + k)).drop i0 := ⟨_, rfl⟩
              have hmarkD : ((l.take L).take (i0 + k)).drop i0 = mark := by
                rw [hmark, List.take_take]
                congr 2
                omega
              have hbsM : Bs wc (some ⟨b, o + i0, none⟩) k mark := by
                refine ⟨by rw [hmark, List.length_drop, List.length_take]; omega, fun _ => ⟨b, o + i0, rfl, hb, fun i hi => ?_⟩⟩
                have := HC.out (i0 + i) (by omega)
                rw [Nat.add_assoc, this]
                have e : bat mark i = bat l (i0 + i) := by
                  rw [hmark]
                  have : i0 + i < i0 + k := by omega
                  simp [bat, List.getElem?_take, this]
                rw [e]
              have hconv := hbsM.convert (c - i0)
              have HMk := Lib.hid hmarkD
              clear hmark hmarkD
              go_upto_region 15 with fail
              go_cut [81] (fun s wx => s = .bool (decide (ml ≠ [] ∧ mark ≠ ml)) ∧ wx = wc)
              case first =>
                have hmt : mk.toList = ml := by rw [Lib.toList_data]; exact HM.out
                by_cases hme : ml = []
                · have HZ := Lib.hid hme
                  rw [hme] at hmt
                  clear hme
                  go_wp2_with fail
                  go_meet
                  refine ⟨?_, rfl⟩
                  rw [HZ.out]
                  rfl
                · have h1 : mk.toList.isEmpty = false := by rw [hmt]; simpa using hme
                  have h2 : ¬ mk.toList = [] := by rw [hmt]; exact hme
                  have hst := str_toList mark
                  by_cases heq : mark = ml
                  · have h3 : ((str mark).toList == mk.toList) = true := by rw [hst, hmt, heq]; simp
                    have HZ := Lib.hid (And.intro hme heq)
                    clear heq hme hmt hst
                    go_wp2_with fail
                    go_meet
                    refine ⟨?_, rfl⟩
                    rw [HZ.out.2]
                    simp
                  · have h3 : ((str mark).toList == mk.toList) = false := by rw [hst, hmt]; simpa using heq
                    have HZ := Lib.hid (And.intro hme heq)
                    clear heq hme hmt hst
                    go_wp2_with fail
                    go_meet
                    refine ⟨?_, rfl⟩
                    have := HZ.out
                    simp [this.1, this.2]
              case rest =>
                obtain ⟨rfl, rfl⟩ := hcut
                by_cases hbad : ml ≠ [] ∧ mark ≠ ml
                · have hd : decide (ml ≠ [] ∧ mark ≠ ml) = true := decide_eq_true hbad
                  rw [hd]
                  have HV := Lib.hid (fence_other (D := l.take L) (ask := q.isSome) (ml := ml) (by rw [HRun.out, HLd.out, HMk.out]; exact hbad))
                  clear hbad hd
                  go_wp2_with fail
                  go_ret2
                  exact ⟨by rw [HV.out]; rfl, by rw [HV.out, fenceW_none]⟩
                · have hd : decide (ml ≠ [] ∧ mark ≠ ml) = false := decide_eq_false hbad
                  rw [hd]
                  have hyes := fence_yes (D := l.take L) (ask := q.isSome) (ml := ml) (by rw [HLd.out, HDl.out]; omega) (by rw [HLd.out, HBt.out]; exact HY.out) (by rw [HRun.out, HLd.out]; omega) (by rw [HRun.out, HLd.out, HMk.out]; exact hbad)
                  rw [HRun.out, HLd.out, HMk.out, HDl.out] at hyes
                  have HYes := Lib.hid hyes
                  clear hbad hd hyes
                  cases q with
                  | none =>
                    have e : qv none = .pointer none := rfl
                    rw [e]
                    by_cases hend : i0 + k < L
                    · have hv : fence (l.take L) (none : Option Nat).isSome ml = none := by
                        rw [HYes.out]
                        simp [hend]
                      have HV := Lib.hid hv
                      have ck := HC.out (i0 + k) (by omega)
                      have hnl : (bat l (i0 + k) != 10) = true := by simpa [bne] using HF.out.non (i0 + k) hend
                      clear hv
                      go_wp2_with fail
                      go_ret2
                      exact ⟨by rw [HV.out]; rfl, by rw [HV.out, fenceW_none]⟩
                    · have hv : fence (l.take L) (none : Option Nat).isSome ml = some (mark, []) := by
                        rw [HYes.out]
                        simp [hend]
                      have HV := Lib.hid hv
                      have hLe : L = i0 + k := by omega
                      subst hLe
                      have ck := HC.out (i0 + k) (by omega)
                      rw [HF.out.nl] at ck
                      clear hv
                      go_wp2_with fail
                      go_ret2
                      exact ⟨by rw [HV.out]; exact congrArg Ending.returned (by congr 2), by rw [HV.out]; rfl⟩
                  | some bi =>
                    have e : qv (some bi) = .pointer (some ⟨bi, 0, none⟩) := rfl
                    rw [e]
                    obtain ⟨⟨u0, hu0⟩, hfr, hbrace⟩ := HQ.out bi rfl
                    have hv : fence (l.take L) (some bi).isSome ml = some (mark, trim blankI ((l.take L).drop (i0 + k))) := by
                      rw [HYes.out]
                      simp
                    have HV := Lib.hid hv
                    have HBr := Lib.hid hbrace
                    clear hv hbrace
                    obtain ⟨e2, he2⟩ : ∃ e2, e2 = run (eqI 32) l (i0 + k) := ⟨_, rfl⟩
                    have he2L : e2 ≤ L := by rw [he2]; exact run_below hkL (by rw [HF.out.nl]; rfl)
                    have he2k : i0 + k ≤ e2 := by rw [he2]; exact le_run _ _ _
                    have HSk := Lib.hid (skip_any (some ⟨b, o, none⟩) n c l (i0 + k) 32 wc HBs.out (by omega) (by omega))
                    rw [← he2] at HSk
                    obtain ⟨j0, hj0⟩ : ∃ j0, L = e2 + j0 := ⟨L - e2, by omega⟩
                    have HE2 := Lib.hid he2
                    have HJ := Lib.hid hj0
                    have c2 := HC.out e2 (by omega)
                    have hb2 : (bat l e2 == 123) = false := by simpa using HBr.out e2 (by omega)
                    have hdec : decide (n ≤ e2) = false := decide_eq_false (by omega)
                    clear he2 hj0
                    go_wp2_with fail
                    refine HSk.out.mono ?_
                    rintro ee w1 ⟨rfl, rfl⟩
                    clear HSk
                    go_upto_block 10 with fail
                    go_cut [8, 11] (fun s t wx => s = .int .i64 ((e2 + j0 : Nat) : Int) ∧ t = .int .i64 j0 ∧ wx = wc)
                    case first =>
                      go_wp2_with fail
                      go_loopg [8, 11] j0 (fun gf s t wx => ∃ j : Nat, j ≤ j0 ∧ gf = j0 - j ∧ s = .int .i64 ((e2 + j : Nat) : Int) ∧ t = .int .i64 j ∧ wx = wc)
                      case atStart => exact ⟨0, Nat.zero_le _, rfl, rfl, rfl, rfl⟩
                      case round =>
                        obtain ⟨j, hj, rfl, rfl, rfl, rfl⟩ := hrel
                        have hjn : e2 + j < n := by have := HJ.out; omega
                        have cj := HC.out (e2 + j) hjn
                        by_cases hjj : j < j0
                        · have hvt := HF.out.vt (e2 + j) (by omega)
                          have hnn := HF.out.non (e2 + j) (by have := HJ.out; omega)
                          have hv0 : vertI (bat l (e2 + j)) = false := by
                            unfold vertI
                            simp [hvt.1, hvt.2.1, hvt.2.2, hnn]
                          clear hvt hnn
                          go_wp2_with (go_at_call 17; refine (vert_any _ _).mono ?_; rintro ee w1 ⟨rfl, rfl⟩)
                          go_roundg (j0 - (j + 1))
                          case measure => omega
                          case rel => exact ⟨j + 1, by omega, rfl, by go_num, by go_num, rfl⟩
                        · have hje : j = j0 := by omega
                          subst hje
                          have hv0 : vertI (bat l (e2 + j)) = true := by rw [← HJ.out, HF.out.nl]; rfl
                          go_wp2_with (go_at_call 17; refine (vert_any _ _).mono ?_; rintro ee w1 ⟨rfl, rfl⟩)
                          go_meet
                          exact ⟨rfl, rfl, rfl⟩
                    case rest =>
                      obtain ⟨rfl, rfl, rfl⟩ := hcut
                      obtain ⟨X, hX⟩ : ∃ X, X = (l.take L).drop e2 := ⟨_, rfl⟩
                      have hXl : X.length = j0 := by rw [hX, List.length_drop, HDl.out, HJ.out]; omega
                      have hXb : ∀ i, i < j0 → bat X i = bat l (e2 + i) := fun i hi => by
                        rw [hX]
                        have : e2 + i < L := by have := HJ.out; omega
                        simp [bat, List.getElem?_take, this]
                      have hbsX : Bs wc (some ⟨b, o + e2, none⟩) j0 X := by
                        refine ⟨hXl, fun _ => ⟨b, o + e2, rfl, hb, fun i hi => ?_⟩⟩
                        have := HC.out (e2 + i) (by have := HJ.out; omega)
                        rw [Nat.add_assoc, this, hXb i hi]
                      have hconvX := hbsX.convert (c - e2)
                      have HT := Lib.hid (trimSpace_any (str X) X wc (by show (str X).data.toList = X; rfl) (fun i hi => by rw [hXb i (by omega)]; exact HF.out.asc (e2 + i) (by have := HJ.out; omega)) (by have := HJ.out; omega))
                      have hinfo : trim spaceI X = trim blankI ((l.take L).drop (i0 + k)) := by
                        have e1 : trim spaceI X = trim blankI X := trim_congr (fun ch hm => by
                          obtain ⟨i, hi, he⟩ := List.getElem_of_mem hm
                          have hb1 : bat X i = (ch.toNat : Int) := by simp [bat, hi, he]
                          rw [hXb i (by omega)] at hb1
                          have hvt := HF.out.vt (e2 + i) (by have := HJ.out; omega)
                          have hnn := HF.out.non (e2 + i) (by have := HJ.out; omega)
                          rw [← hb1]
                          unfold spaceI vertI
                          simp [hvt.1, hvt.2.1, hvt.2.2, hnn])
                        have e3 := trim_skip (P := blankI) (Q := eqI 32) (fun n hn => by unfold eqI at hn; unfold blankI; rw [hn]; rfl) ((l.take L).drop (i0 + k))
                        rw [List.drop_drop] at e3
                        have e4 : i0 + k + span (eqI 32) ((l.take L).drop (i0 + k)) = e2 := by
                          have := span_cut (P := eqI 32) (l := l) (L := L) (i := i0 + k) hkL (by omega) (by rw [HF.out.nl]; rfl)
                          rw [← HE2.out] at this
                          exact this
                        rw [e4, ← hX] at e3
                        rw [e1, e3]
                      have HInfo := Lib.hid hinfo
                      have hjn : e2 + j0 ≤ n := by have := HJ.out; omega
                      have hjL := HJ.out
                      subst hjL
                      have cL := HC.out (e2 + j0) (by omega)
                      rw [HF.out.nl] at cL
                      clear hX hXl hXb hbsX hinfo
                      go_wp2_with fail
                      refine HT.out.mono ?_
                      rintro ee w1 ⟨rfl, rfl⟩
                      clear HT
                      go_wp2_with fail
                      go_ret2
                      exact ⟨by rw [HV.out]; exact congrArg Ending.returned (by congr 2), by rw [HV.out, HInfo.out]; rfl⟩

end Go.Proofs.YtcpkkmpckdcbjaaDoor
