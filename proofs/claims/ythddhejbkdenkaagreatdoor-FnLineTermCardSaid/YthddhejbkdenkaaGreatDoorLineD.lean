/- Lines: spec.EmptyLine, spec.Has, spec.IsHeadingLine walked. Condition: the text is not empty, lengths are bounded, the extensions are not negative. -/
import Derived.Test.YthddhejbkdenkaaGreatDoorLineC
import Derived.Laws.BitsAllLaws
namespace Go.Proofs.YthddhejbkdenkaaGreatDoor
open Go.ChangeShapes Go.WideShapes Go.ChangeAt Go.RowKit

theorem bne_of {a b : Int} {v : Bool} (h : (a == b) = v) : (a != b) = !v := by simp only [bne, h]

set_option maxHeartbeats 1000000 in
theorem sEmpty_any (p : Option Addr) (n c : Nat) (l : List UInt8) (w : World) (h : Bs w p n l) (h0 : 0 < n) (hc : n ≤ c) (hcm : c ≤ maxLen) (hn : n ≤ 1000000) :
    Calls Tryz.prog 13 #[.slice p n c] w fun e w' => e = .returned (.int .i64 (emptyF l)) ∧ w = w' := by
  have hl := h.len
  have HE := Lib.hid (lineEnd_any p n c l w h (by omega))
  have hLn : run (neI 10) l 0 ≤ n := by rw [← hl]; exact run_le _ _ _ (Nat.zero_le _)
  obtain ⟨L, hL⟩ : ∃ L, L = run (neI 10) l 0 := ⟨_, rfl⟩
  rw [← hL] at HE hLn
  have HL := Lib.hid hL.symm
  have HN := Lib.hid hl
  obtain ⟨b, o, rfl, _, hcell⟩ := h.cells h0
  have HC := Lib.hid hcell
  clear h hl hL hcell
  go_enter Tryz.func13, Tryz.ntmps13
  go_wp2_with fail
  refine HE.out.mono ?_
  rintro e w1 ⟨rfl, rfl⟩
  clear HE
  go_wp2_with fail
  go_loop [12] (fun t => ∃ k : Nat, k ≤ L ∧ t = .int .i64 k ∧ ∀ i, i < k → blankI (bat l i) = true) (fun t => L - (intOf t).toNat)
  case atStart => exact ⟨0, Nat.zero_le _, rfl, fun i hi => absurd hi (Nat.not_lt_zero i)⟩
  case round =>
    obtain ⟨k, hk, rfl, hr⟩ := hrel
    have HR := Lib.hid hr
    clear hr
    by_cases hlt : k < L
    · have ck := HC.out k (by omega)
      cases h32 : (bat l k == 32) with
      | true =>
        have h32' := bne_of h32
        have HV := Lib.hid (show blankI (bat l k) = true by unfold blankI; rw [h32]; rfl)
        go_wp2_with fail
        go_round
        case rel =>
          refine ⟨k + 1, by omega, by go_num, fun i hi => ?_⟩
          by_cases e : i = k
          · rw [e]; exact HV.out
          · exact HR.out i (by omega)
        case measure => simp [intOf]; omega
      | false =>
        have h32' := bne_of h32
        cases h9 : (bat l k == 9) with
        | true =>
          have h9' := bne_of h9
          have HV := Lib.hid (show blankI (bat l k) = true by unfold blankI; rw [h9]; simp)
          go_wp2_with fail
          go_round
          case rel =>
            refine ⟨k + 1, by omega, by go_num, fun i hi => ?_⟩
            by_cases e : i = k
            · rw [e]; exact HV.out
            · exact HR.out i (by omega)
          case measure => simp [intOf]; omega
        | false =>
          have h9' := bne_of h9
          have HV := Lib.hid (emptyF_no (l := l) (i := k) (by rw [HL.out]; exact hlt) (by rw [HL.out, HN.out]; exact hLn) (by unfold blankI; rw [h32, h9]; rfl))
          go_wp2_with fail
          go_ret
          exact ⟨ret_int (by rw [HV.out]; rfl), rfl⟩
    · obtain rfl : k = L := by omega
      have HV := Lib.hid (emptyF_yes HL.out (by rw [HN.out]; exact hLn) HR.out)
      go_wp2_with fail
      go_ret
      exact ⟨ret_int (by rw [HV.out]; omega), rfl⟩

/-- is the extension SpaceHeadings in a set -/
def hasB (ext : Int) : Bool := ext / 128 % 2 == 1
theorem has_any (ext : Int) (w : World) (h0 : 0 ≤ ext) (h1 : ext ≤ 1000000) :
    Calls Tryz.prog 31 #[.int .i64 ext, .int .i64 128] w fun e w' => e = .returned (.bool (hasB ext)) ∧ w = w' := by
  go_enter Tryz.func31, Tryz.ntmps31
  go_wp2_with fail
  go_ret
  exact ⟨rfl, rfl⟩
theorem and128 (ext : Int) (h0 : 0 ≤ ext) (h1 : ext ≤ 1000000) : (bits .and .i64 ext 128 != 0) = hasB ext := by
  obtain ⟨n, rfl⟩ := Int.eq_ofNat_of_zero_le h0
  have e : bits .and .i64 (n : Int) 128 = ((n / 128 % 2 * 128 : Nat) : Int) := by
    have e1 : (BitVec.ofInt 64 (128 : Int)).toNat = 2 ^ 7 := by decide
    show IntKind.i64.wrap ((BitVec.ofInt 64 (n : Int) &&& BitVec.ofInt 64 128).toNat : Int) = _
    rw [BitVec.toNat_and, ofInt_u64 n (by omega), e1, nat_bit 7 n, IntKind.wrap_i64]
    omega
  rw [e]
  unfold hasB
  have e2 : ((n : Int) / 128 % 2) = ((n / 128 % 2 : Nat) : Int) := by omega
  rw [e2]
  rcases Nat.mod_two_eq_zero_or_one (n / 128) with h | h <;> rw [h] <;> rfl

theorem headF_eq {sp : Bool} {l : List UInt8} {k n : Nat} (hs : signs l = k) (hn : l.length = n) : headF sp l = (decide (0 < k) && (!sp || (decide (k < n) && bat l k == 32))) := by
  unfold headF
  rw [hs, hn]

set_option maxHeartbeats 2000000 in
theorem sHead_any (ext : Int) (p : Option Addr) (n c : Nat) (l : List UInt8) (w : World) (h : Bs w p n l) (h0 : 0 < n) (hn : n ≤ 1000000) (e0 : 0 ≤ ext) (e1 : ext ≤ 1000000) :
    Calls Tryz.prog 14 #[.int .i64 ext, .slice p n c] w fun e w' => e = .returned (.bool (headF (hasB ext) l)) ∧ w = w' := by
  have HL := Lib.hid h.len
  have HH := Lib.hid (has_any ext w e0 e1)
  obtain ⟨sp, hsp⟩ : ∃ sp, sp = hasB ext := ⟨_, rfl⟩
  rw [← hsp] at HH ⊢
  obtain ⟨b, o, rfl, _, hcell⟩ := h.cells h0
  have HC := Lib.hid hcell
  clear h hcell hsp
  go_enter Tryz.func14, Tryz.ntmps14
  go_wp2_with fail
  go_loop [5] (fun t => ∃ k : Nat, k ≤ n ∧ k ≤ 6 ∧ t = .int .i64 k ∧ ∀ i, i < k → bat l i = 35) (fun t => n - (intOf t).toNat)
  case atStart => exact ⟨0, Nat.zero_le _, Nat.zero_le _, rfl, fun i hi => absurd hi (Nat.not_lt_zero i)⟩
  case round =>
    obtain ⟨k, hk, hk6, rfl, hr⟩ := hrel
    have HR := Lib.hid hr
    clear hr
    by_cases hlt : k < n
    · have ck := HC.out k hlt
      by_cases h6 : k < 6
      · by_cases h35 : bat l k = 35
        · have HV := Lib.hid h35
          rw [h35] at ck
          clear h35
          go_wp2_with fail
          go_round
          case rel =>
            refine ⟨k + 1, by omega, by omega, by go_num, fun i hi => ?_⟩
            by_cases e : i = k
            · rw [e]; exact HV.out
            · exact HR.out i (by omega)
          case measure => simp [intOf]; omega
        · have HF := Lib.hid (headF_eq (sp := sp) (signs_is hk6 (by rw [HL.out]; exact hk) HR.out (Or.inr (Or.inr h35))) HL.out)
          by_cases k0 : 0 < k
          · cases sp with
            | true =>
              go_wp2_with fail
              refine HH.out.mono ?_
              rintro e w1 ⟨rfl, rfl⟩
              go_wp2_with fail
              go_ret
              exact ⟨ret_bool (by rw [HF.out]; simp [k0, hlt]), rfl⟩
            | false =>
              go_wp2_with fail
              refine HH.out.mono ?_
              rintro e w1 ⟨rfl, rfl⟩
              go_wp2_with fail
              go_ret
              exact ⟨ret_bool (by rw [HF.out]; simp [k0]), rfl⟩
          · go_wp2_with fail
            go_ret
            exact ⟨ret_bool (by rw [HF.out]; simp [k0]), rfl⟩
      · have HF := Lib.hid (headF_eq (sp := sp) (signs_is hk6 (by rw [HL.out]; exact hk) HR.out (Or.inl (by omega))) HL.out)
        have k0 : 0 < k := by omega
        cases sp with
        | true =>
          go_wp2_with fail
          refine HH.out.mono ?_
          rintro e w1 ⟨rfl, rfl⟩
          go_wp2_with fail
          go_ret
          exact ⟨ret_bool (by rw [HF.out]; simp [k0, hlt]), rfl⟩
        | false =>
          go_wp2_with fail
          refine HH.out.mono ?_
          rintro e w1 ⟨rfl, rfl⟩
          go_wp2_with fail
          go_ret
          exact ⟨ret_bool (by rw [HF.out]; simp [k0]), rfl⟩
    · have HF := Lib.hid (headF_eq (sp := sp) (signs_is hk6 (by rw [HL.out]; exact hk) HR.out (Or.inr (Or.inl (by rw [HL.out]; omega)))) HL.out)
      have k0 : 0 < k := by omega
      cases sp with
      | true =>
        go_wp2_with fail
        refine HH.out.mono ?_
        rintro e w1 ⟨rfl, rfl⟩
        go_wp2_with fail
        go_ret
        exact ⟨ret_bool (by rw [HF.out]; simp [hlt]), rfl⟩
      | false =>
        go_wp2_with fail
        refine HH.out.mono ?_
        rintro e w1 ⟨rfl, rfl⟩
        go_wp2_with fail
        go_ret
        exact ⟨ret_bool (by rw [HF.out]; simp [k0]), rfl⟩

end Go.Proofs.YthddhejbkdenkaaGreatDoor
