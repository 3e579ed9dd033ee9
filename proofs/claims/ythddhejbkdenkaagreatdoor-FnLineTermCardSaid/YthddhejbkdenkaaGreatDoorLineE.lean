/- Lines: the parser's isEmpty, isHRule, isPrefixHeading, isUnderlinedHeading, oliPrefix walked. Condition: the text is not empty, has a line feed, lengths are bounded. -/
import Derived.Test.YthddhejbkdenkaaGreatDoorLineD
namespace Go.Proofs.YthddhejbkdenkaaGreatDoor
open Go.ChangeShapes Go.WideShapes Go.ChangeAt Go.RowKit

/-- the first line feed of a text stands at L -/
structure Nl (l : List UInt8) (L : Nat) : Prop where
  lt : L < l.length
  nl : bat l L = 10
  non : ∀ j, j < L → bat l j ≠ 10
theorem Nl.run {l : List UInt8} {L : Nat} (h : Nl l L) : run (neI 10) l 0 = L := by
  have hm : ∀ d i, L - i = d → i ≤ L → Go.Proofs.YthddhejbkdenkaaGreatDoor.run (neI 10) l i = L := by
    intro d
    induction d with
    | zero =>
      intro i hd hi
      have e : i = L := by omega
      rw [e, run_stop (by rw [h.nl]; rfl)]
    | succ d ih =>
      intro i hd hi
      have hlt := h.lt
      rw [run_step (by omega) (by have := h.non i (by omega); simp [neI, this])]
      exact ih (i + 1) (by omega) (by omega)
  exact hm L 0 (by omega) (Nat.zero_le _)
theorem nl_of {l : List UInt8} (h0 : 0 < l.length) (h : bat l (l.length - 1) = 10) : ∃ L, Nl l L := by
  have hex : ∀ d, ∀ i, l.length - 1 - i = d → i < l.length → (∀ j, j < i → bat l j ≠ 10) → ∃ L, Nl l L := by
    intro d
    induction d with
    | zero =>
      intro i hd hi hj
      exact ⟨i, hi, by rw [show i = l.length - 1 by omega]; exact h, hj⟩
    | succ d ih =>
      intro i hd hi hj
      by_cases e : bat l i = 10
      · exact ⟨i, hi, e, hj⟩
      · exact ih (i + 1) (by omega) (by omega) (fun j hj2 => by
          by_cases e2 : j = i
          · rw [e2]; exact e
          · exact hj j (by omega))
  exact hex _ 0 rfl h0 (fun j hj => absurd hj (Nat.not_lt_zero j))

set_option maxHeartbeats 2000000 in
theorem pEmpty_any (v : Value) (p : Option Addr) (n c L : Nat) (l : List UInt8) (w : World) (h : Bs w p n l) (hF : Nl l L) (hn : n ≤ 1000000) :
    Calls Tryz.prog 34 #[v, .slice p n c] w fun e w' => e = .returned (.int .i64 (emptyF l)) ∧ w = w' := by
  have hl := h.len
  have hlf := hF.lt
  rw [hl] at hlf
  have h0 : 0 < n := by omega
  have HF := Lib.hid hF
  have HN := Lib.hid hl
  obtain ⟨b, o, rfl, _, hcell⟩ := h.cells h0
  have HC := Lib.hid hcell
  clear h hl hcell hF
  go_enter Tryz.func34, Tryz.ntmps34
  go_wp2_with fail
  go_loop [5] (fun t => ∃ k : Nat, k ≤ L ∧ t = .int .i64 k ∧ ∀ i, i < k → blankI (bat l i) = true) (fun t => L - (intOf t).toNat)
  case atStart => exact ⟨0, Nat.zero_le _, rfl, fun i hi => absurd hi (Nat.not_lt_zero i)⟩
  case round =>
    obtain ⟨k, hk, rfl, hr⟩ := hrel
    have HR := Lib.hid hr
    clear hr
    have hkn : k < n := by omega
    by_cases hlt : k < L
    · have ck := HC.out k hkn
      have h10 : (bat l k == 10) = false := by simpa using HF.out.non k hlt
      have h10' := bne_of h10
      cases h32 : (bat l k == 32) with
      | true =>
        have h32' := bne_of h32
        have HV := Lib.hid (show blankI (bat l k) = true by unfold blankI; rw [h32]; rfl)
        go_wp2_with fail
        go_round
        case rel =>
          refine ⟨k + 1, by omega, by go_num, fun i hi => ?_⟩
          by_cases e : i = k
          · rw [e]; exact HV.out
          · exact HR.out i (by omega)
        case measure => simp [intOf]; omega
      | false =>
        have h32' := bne_of h32
        cases h9 : (bat l k == 9) with
        | true =>
          have h9' := bne_of h9
          have HV := Lib.hid (show blankI (bat l k) = true by unfold blankI; rw [h9]; simp)
          go_wp2_with fail
          go_round
          case rel =>
            refine ⟨k + 1, by omega, by go_num, fun i hi => ?_⟩
            by_cases e : i = k
            · rw [e]; exact HV.out
            · exact HR.out i (by omega)
          case measure => simp [intOf]; omega
        | false =>
          have h9' := bne_of h9
          have HV := Lib.hid (emptyF_no (l := l) (i := k) (by rw [HF.out.run]; exact hlt) (by rw [HF.out.run, HN.out]; omega) (by unfold blankI; rw [h32, h9]; rfl))
          go_wp2_with fail
          go_ret
          exact ⟨ret_int (by rw [HV.out]; rfl), rfl⟩
    · obtain rfl : k = L := by omega
      have ck := HC.out k hkn
      rw [HF.out.nl] at ck
      have HV := Lib.hid (emptyF_yes HF.out.run (by rw [HN.out]; omega) HR.out)
      go_wp2_with fail
      go_ret
      exact ⟨ret_int (by rw [HV.out]; omega), rfl⟩

set_option maxHeartbeats 2000000 in
theorem pHead_any (ext : Int) (B : Nat) (p : Option Addr) (n c : Nat) (l : List UInt8) (w : World) (h : Bs w p n l) (h0 : 0 < n) (hn : n ≤ 1000000) (e0 : 0 ≤ ext) (e1 : ext ≤ 1000000) (hx : w.cell? ⟨B, 259, none⟩ = some (.int .i64 ext)) :
    Calls Tryz.prog 36 #[.pointer (some ⟨B, 0, none⟩), .slice p n c] w fun e w' => e = .returned (.bool (headF (hasB ext) l)) ∧ w = w' := by
  have HL := Lib.hid h.len
  have hA := and128 ext e0 e1
  obtain ⟨sp, hsp⟩ : ∃ sp, sp = hasB ext := ⟨_, rfl⟩
  rw [← hsp] at hA ⊢
  obtain ⟨b, o, rfl, _, hcell⟩ := h.cells h0
  have HC := Lib.hid hcell
  have c0 := hcell 0 h0
  simp only [Nat.add_zero] at c0
  clear h hcell hsp
  cases h35 : (bat l 0 == 35) with
  | false =>
    have h35' := bne_of h35
    have HF := Lib.hid (headF_eq (sp := sp) (signs_is (k := 0) (Nat.zero_le _) (Nat.zero_le _) (fun i hi => absurd hi (Nat.not_lt_zero i)) (Or.inr (Or.inr (by simpa using h35)))) HL.out)
    go_enter Tryz.func36, Tryz.ntmps36
    go_wp2_with fail
    go_ret
    exact ⟨ret_bool (by rw [HF.out]; rfl), rfl⟩
  | true =>
    have h35' := bne_of h35
    have HS := Lib.hid h35
    cases sp with
    | false =>
      have HF := Lib.hid (show headF false l = true by
        unfold headF
        have h1 : 0 < signs l := by
          rcases Nat.eq_zero_or_pos (signs l) with hz | hz
          · exfalso
            unfold signs at hz
            have hsp : 0 < span (eqI 35) l := by
              cases l with
              | nil => have := HL.out; simp at this; omega
              | cons x r =>
                rw [span, if_pos (by unfold eqI; simpa [bat] using h35)]
                omega
            omega
          · exact hz
        rw [decide_eq_true h1]
        rfl)
      go_enter Tryz.func36, Tryz.ntmps36
      go_wp2_with fail
      go_ret
      exact ⟨ret_bool (by rw [HF.out]), rfl⟩
    | true =>
      go_enter Tryz.func36, Tryz.ntmps36
      go_wp2_with fail
      go_loop [5] (fun t => ∃ k : Nat, k ≤ n ∧ k ≤ 6 ∧ t = .int .i64 k ∧ ∀ i, i < k → bat l i = 35) (fun t => n - (intOf t).toNat)
      case atStart => exact ⟨0, Nat.zero_le _, Nat.zero_le _, rfl, fun i hi => absurd hi (Nat.not_lt_zero i)⟩
      case round =>
        obtain ⟨k, hk, hk6, rfl, hr⟩ := hrel
        have HR := Lib.hid hr
        clear hr
        by_cases hlt : k < n
        · have ck := HC.out k hlt
          by_cases h6 : k < 6
          · cases h35 : (bat l k == 35) with
            | true =>
              have HV := Lib.hid (show bat l k = 35 by simpa using h35)
              go_wp2_with fail
              go_round
              case rel =>
                refine ⟨k + 1, by omega, by omega, by go_num, fun i hi => ?_⟩
                by_cases e : i = k
                · rw [e]; exact HV.out
                · exact HR.out i (by omega)
              case measure => simp [intOf]; omega
            | false =>
              have HF := Lib.hid (headF_eq (sp := true) (signs_is hk6 (by rw [HL.out]; exact hk) HR.out (Or.inr (Or.inr (by simpa using h35)))) HL.out)
              have HK := Lib.hid (show 0 < k by
                rcases Nat.eq_zero_or_pos k with hz | hz
                · rw [hz, HS.out] at h35; cases h35
                · exact hz)
              cases h32 : (bat l k == 32) with
              | true =>
                have h32' := bne_of h32
                go_wp2_with fail
                go_ret
                exact ⟨ret_bool (by rw [HF.out, h32]; simp [HK.out, hlt]), rfl⟩
              | false =>
                have h32' := bne_of h32
                go_wp2_with fail
                go_ret
                exact ⟨ret_bool (by rw [HF.out, h32]; simp), rfl⟩
          · have HF := Lib.hid (headF_eq (sp := true) (signs_is hk6 (by rw [HL.out]; exact hk) HR.out (Or.inl (by omega))) HL.out)
            cases h32 : (bat l k == 32) with
            | true =>
              have h32' := bne_of h32
              go_wp2_with fail
              go_ret
              exact ⟨ret_bool (by rw [HF.out, h32]; simp [hlt]; omega), rfl⟩
            | false =>
              have h32' := bne_of h32
              go_wp2_with fail
              go_ret
              exact ⟨ret_bool (by rw [HF.out, h32]; simp), rfl⟩
        · have HF := Lib.hid (headF_eq (sp := true) (signs_is hk6 (by rw [HL.out]; exact hk) HR.out (Or.inr (Or.inl (by rw [HL.out]; omega)))) HL.out)
          have hke : ((k : Int) == (n : Int)) = true := by simp; omega
          go_wp2_with fail
          all_goals go_ret
          all_goals exact ⟨ret_bool (by rw [HF.out]; simp [hlt]), rfl⟩


set_option maxHeartbeats 2000000 in
theorem pUnder_any (v : Value) (p : Option Addr) (n c : Nat) (l : List UInt8) (w : World) (h : Bs w p n l) (h0 : 0 < n) (hn : n ≤ 1000000) :
    Calls Tryz.prog 37 #[v, .slice p n c] w (SomeInt w) := by
  have HH := Lib.hid h
  have HL := Lib.hid h.len
  obtain ⟨b, o, rfl, _, hcell⟩ := h.cells h0
  have HC := Lib.hid hcell
  have c0 := hcell 0 h0
  simp only [Nat.add_zero] at c0
  clear h hcell
  have tail : ∀ ch : Int, ∃ s1 s2 : Nat, s1 ≤ n ∧ s2 ≤ n ∧ Calls Tryz.prog 56 #[.slice (some ⟨b, o, none⟩) n c, .int .i64 1, .int .u8 ch] w (fun e w' => e = .returned (.int .i64 (s1 : Int)) ∧ w = w') ∧ Calls Tryz.prog 56 #[.slice (some ⟨b, o, none⟩) n c, .int .i64 (s1 : Int), .int .u8 32] w (fun e w' => e = .returned (.int .i64 (s2 : Int)) ∧ w = w') := by
    intro ch
    have h1 : run (eqI ch) l 1 ≤ n := by rw [← HL.out]; exact run_le _ _ _ (by rw [HL.out]; omega)
    have h2 : run (eqI 32) l (run (eqI ch) l 1) ≤ n := by rw [← HL.out]; exact run_le _ _ _ (by rw [HL.out]; exact h1)
    exact ⟨_, _, h1, h2, skip_any _ n c l 1 ch w HH.out (by omega) (by omega), skip_any _ n c l _ 32 w HH.out (by omega) h1⟩
  cases h61 : (bat l 0 == 61) with
  | true =>
    obtain ⟨s1, s2, hs1, hs2, q1, q2⟩ := tail 61
    have H1 := Lib.hid q1
    have H2 := Lib.hid q2
    clear q1 q2 tail
    by_cases h2 : s2 < n
    · have c2 := HC.out s2 h2
      go_enter Tryz.func37, Tryz.ntmps37
      go_wp2_with fail
      refine H1.out.mono ?_
      rintro e w1 ⟨rfl, rfl⟩
      go_wp2_with fail
      refine H2.out.mono ?_
      rintro e w1 ⟨rfl, rfl⟩
      go_wp2_with fail
      all_goals go_ret
      all_goals exact ⟨_, rfl, rfl⟩
    · go_enter Tryz.func37, Tryz.ntmps37
      go_wp2_with fail
      refine H1.out.mono ?_
      rintro e w1 ⟨rfl, rfl⟩
      go_wp2_with fail
      refine H2.out.mono ?_
      rintro e w1 ⟨rfl, rfl⟩
      go_wp2_with fail
      all_goals go_ret
      all_goals exact ⟨_, rfl, rfl⟩
  | false =>
    cases h45 : (bat l 0 == 45) with
    | true =>
      obtain ⟨s1, s2, hs1, hs2, q1, q2⟩ := tail 45
      have H1 := Lib.hid q1
      have H2 := Lib.hid q2
      clear q1 q2 tail
      by_cases h2 : s2 < n
      · have c2 := HC.out s2 h2
        go_enter Tryz.func37, Tryz.ntmps37
        go_wp2_with fail
        refine H1.out.mono ?_
        rintro e w1 ⟨rfl, rfl⟩
        go_wp2_with fail
        refine H2.out.mono ?_
        rintro e w1 ⟨rfl, rfl⟩
        go_wp2_with fail
        all_goals go_ret
        all_goals exact ⟨_, rfl, rfl⟩
      · go_enter Tryz.func37, Tryz.ntmps37
        go_wp2_with fail
        refine H1.out.mono ?_
        rintro e w1 ⟨rfl, rfl⟩
        go_wp2_with fail
        refine H2.out.mono ?_
        rintro e w1 ⟨rfl, rfl⟩
        go_wp2_with fail
        all_goals go_ret
        all_goals exact ⟨_, rfl, rfl⟩
    | false =>
      clear tail
      go_enter Tryz.func37, Tryz.ntmps37
      go_wp2_with fail
      go_ret
      exact ⟨_, rfl, rfl⟩

set_option maxHeartbeats 4000000 in
theorem pOli_any (v : Value) (p : Option Addr) (n c : Nat) (l : List UInt8) (w : World) (h : Bs w p n l) (h0 : 0 < n) (hn : n ≤ 1000000) :
    Calls Tryz.prog 41 #[v, .slice p n c] w (SomeInt w) := by
  obtain ⟨b, o, rfl, _, hcell⟩ := h.cells h0
  have HC := Lib.hid hcell
  clear h hcell
  go_enter Tryz.func41, Tryz.ntmps41
  go_upto_block 0 with fail
  go_cut [5] (fun s wx => (∃ k : Nat, s = .int .i64 k ∧ k ≤ n) ∧ wx = w)
  case first =>
    go_wp2_with fail
    go_loop [5] (fun t => ∃ k : Nat, k ≤ n ∧ t = .int .i64 k) (fun t => n - (intOf t).toNat)
    case atStart => exact ⟨0, Nat.zero_le _, rfl⟩
    case round =>
      obtain ⟨k, hk, rfl⟩ := hrel
      by_cases hlt : k < n
      · have ck := HC.out k hlt
        by_cases h3 : k < 3
        · cases h32 : (bat l k == 32) with
          | true =>
            go_wp2_with fail
            go_round
            case rel => exact ⟨k + 1, by omega, by go_num⟩
            case measure => simp [intOf]; omega
          | false =>
            go_wp2_with fail
            go_meet
            exact ⟨⟨k, rfl, hk⟩, rfl⟩
        · go_wp2_with fail
          go_meet
          exact ⟨⟨k, rfl, hk⟩, rfl⟩
      · go_wp2_with fail
        all_goals go_meet
        all_goals exact ⟨⟨k, rfl, hk⟩, rfl⟩
  case rest =>
    obtain ⟨⟨s, rfl, hs⟩, rfl⟩ := hcut
    go_wp2_with fail
    go_loop [5] (fun t => ∃ k : Nat, k ≤ n ∧ t = .int .i64 k) (fun t => n - (intOf t).toNat)
    case atStart => exact ⟨s, hs, rfl⟩
    case round =>
      obtain ⟨k, hk, rfl⟩ := hrel
      by_cases hlt : k < n
      · have ck := HC.out k hlt
        by_cases hd : 48 ≤ bat l k ∧ bat l k ≤ 57
        · obtain ⟨d1, d2⟩ := hd
          go_wp2_with fail
          go_round
          case rel => exact ⟨k + 1, by omega, by go_num⟩
          case measure => simp [intOf]; omega
        · by_cases d1 : 48 ≤ bat l k
          · have d2 : 57 < bat l k := by omega
            clear hd
            by_cases h1 : k + 1 < n
            · have ck1 := HC.out (k + 1) h1
              go_wp2_with fail
              all_goals go_ret
              all_goals exact ⟨_, rfl, rfl⟩
            · go_wp2_with fail
              all_goals go_ret
              all_goals exact ⟨_, rfl, rfl⟩
          · clear hd
            by_cases h1 : k + 1 < n
            · have ck1 := HC.out (k + 1) h1
              go_wp2_with fail
              all_goals go_ret
              all_goals exact ⟨_, rfl, rfl⟩
            · go_wp2_with fail
              all_goals go_ret
              all_goals exact ⟨_, rfl, rfl⟩
      · go_wp2_with fail
        all_goals go_ret
        all_goals exact ⟨_, rfl, rfl⟩

/-- a call hands back some truth value, and the world as it was -/
def SomeBool (w : World) (e : Ending) (w' : World) : Prop := ∃ z : Bool, e = .returned (.bool z) ∧ w = w'

set_option maxHeartbeats 4000000 in
theorem pRule_any (v : Value) (p : Option Addr) (n c L : Nat) (l : List UInt8) (w : World) (h : Bs w p n l) (hF : Nl l L) (hn : n ≤ 1000000) :
    Calls Tryz.prog 35 #[v, .slice p n c] w (SomeBool w) := by
  have hlt := hF.lt
  rw [h.len] at hlt
  have HF := Lib.hid hF
  obtain ⟨b, o, rfl, _, hcell⟩ := h.cells (by omega)
  have HC := Lib.hid hcell
  clear h hcell hF
  go_enter Tryz.func35, Tryz.ntmps35
  go_upto_block 0 with fail
  go_cut [5] (fun s wx => (∃ k : Nat, s = .int .i64 k ∧ k ≤ L) ∧ wx = w)
  case first =>
    go_wp2_with fail
    go_loop [5] (fun t => ∃ k : Nat, k ≤ L ∧ t = .int .i64 k) (fun t => n - (intOf t).toNat)
    case atStart => exact ⟨0, Nat.zero_le _, rfl⟩
    case round =>
      obtain ⟨k, hk, rfl⟩ := hrel
      have ck := HC.out k (by omega)
      by_cases h3 : k < 3
      · cases h32 : (bat l k == 32) with
        | true =>
          have hkL : k < L := by
            rcases Nat.lt_or_ge k L with hx | hx
            · exact hx
            · exfalso
              rw [show k = L by omega, HF.out.nl] at h32
              cases h32
          go_wp2_with fail
          go_round
          case rel => exact ⟨k + 1, by omega, by go_num⟩
          case measure => simp [intOf]; omega
        | false =>
          go_wp2_with fail
          go_meet
          exact ⟨⟨k, rfl, hk⟩, rfl⟩
      · go_wp2_with fail
        go_meet
        exact ⟨⟨k, rfl, hk⟩, rfl⟩
  case rest =>
    obtain ⟨⟨s, rfl, hs⟩, rfl⟩ := hcut
    have cs := HC.out s (by omega)
    obtain ⟨ch, hch⟩ : ∃ ch, ch = bat l s := ⟨_, rfl⟩
    rw [← hch] at cs
    clear hch
    cases h1 : (ch == 42 || ch == 45 || ch == 95) with
    | false =>
      have a1 : (ch == 42) = false := by cases hx : (ch == 42) with | false => rfl | true => rw [hx] at h1; simp at h1
      have a2 : (ch == 45) = false := by cases hx : (ch == 45) with | false => rfl | true => rw [hx] at h1; simp at h1
      have a3 : (ch == 95) = false := by cases hx : (ch == 95) with | false => rfl | true => rw [hx] at h1; simp at h1
      have b1 := bne_of a1
      have b2 := bne_of a2
      have b3 := bne_of a3
      clear h1
      go_wp2_with fail
      go_ret
      exact ⟨_, rfl, rfl⟩
    | true =>
      have h3 : (ch == 42) = true ∨ ((ch == 42) = false ∧ (ch == 45) = true) ∨ ((ch == 42) = false ∧ (ch == 45) = false ∧ (ch == 95) = true) := by
        cases hx : (ch == 42) with
        | true => exact Or.inl rfl
        | false =>
          cases hy : (ch == 45) with
          | true => exact Or.inr (Or.inl ⟨rfl, rfl⟩)
          | false =>
            rw [hx, hy] at h1
            exact Or.inr (Or.inr ⟨rfl, rfl, by simpa using h1⟩)
      clear h1
      rcases h3 with a1 | ⟨a1, a2⟩ | ⟨a1, a2, a3⟩
      all_goals (
        have b1 := bne_of a1
        try have b2 := bne_of a2
        try have b3 := bne_of a3
        go_wp2_with fail
        go_loop [5, 7] (fun t u => ∃ k m : Nat, k ≤ L ∧ m ≤ k ∧ t = .int .i64 k ∧ u = .int .i64 m) (fun t _ => n - (intOf t).toNat)
        case atStart => exact ⟨s, 0, hs, Nat.zero_le _, rfl, rfl⟩
        case round =>
          obtain ⟨k, m, hk, hm, rfl, rfl⟩ := hrel
          have ck := HC.out k (by omega)
          have hkn : k < n := by omega
          by_cases hkL : k < L
          · have h10 : (bat l k == 10) = false := by simpa using HF.out.non k hkL
            have h10' := bne_of h10
            cases hc2 : (bat l k == ch) with
            | true =>
              go_wp2_with fail
              go_round
              case rel => exact ⟨k + 1, m + 1, by omega, by omega, by go_num, by go_num⟩
              case measure => simp [intOf]; omega
            | false =>
              cases h32 : (bat l k == 32) with
              | true =>
                have h32' := bne_of h32
                go_wp2_with fail
                go_round
                case rel => exact ⟨k + 1, m, by omega, by omega, by go_num, rfl⟩
                case measure => simp [intOf]; omega
              | false =>
                have h32' := bne_of h32
                go_wp2_with fail
                go_ret
                exact ⟨_, rfl, rfl⟩
          · obtain rfl : k = L := by omega
            rw [HF.out.nl] at ck
            go_wp2_with fail
            go_ret
            exact ⟨_, rfl, rfl⟩)

end Go.Proofs.YthddhejbkdenkaaGreatDoor
