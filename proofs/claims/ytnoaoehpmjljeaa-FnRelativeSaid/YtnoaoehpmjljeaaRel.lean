/- FnRelative: the functions that ask whether a link is relative, walked. No condition. -/
import Derived.Test.YtnoaoehpmjljeaaBytes
namespace Go.Proofs.Ytnoaoehpmjljeaa
open Go.ChangeShapes Go.WideShapes Go.ChangeAt Go.RowKit

/-- spec.Begins -/
theorem begins_any (p : Option Addr) (n c : Nat) (l : List UInt8) (s : ByteArray) (w : World) (h1 : Bs w p n l) (hc : n ≤ c) (_hcm : c ≤ maxLen) (h0 : 0 < s.size) (_hs : s.size ≤ maxLen) :
    Calls Try.prog 25 #[.slice p n c, .string s] w fun e w' => e = .returned (.bool (begins l s.toList)) ∧ w = w' := by
  unfold maxLen at _hcm _hs
  have hsl : s.toList.length = s.size := by rw [Lib.toList_data]; rfl
  have HS := Lib.hid hsl
  have HL := Lib.hid h1.len
  clear hsl
  by_cases hle : s.size ≤ n
  · obtain ⟨b, o, rfl, hlt, hcell⟩ := h1.cells (by omega)
    have h3 := (h1.take s.size hle).convert c
    clear hcell
    go_enter Try.func25, Try.ntmps25
    go_wp2_with fail
    go_ret
    refine ⟨ret_bool ?_, rfl⟩
    rw [str_toList, begins_of_le (by rw [HL.out, HS.out]; exact hle), HS.out]
  · go_enter Try.func25, Try.ntmps25
    go_wp2_with fail
    go_ret
    refine ⟨ret_bool ?_, rfl⟩
    rw [begins_short (by rw [HL.out, HS.out]; omega)]

/-- what a relative link is -/
def relative (l : List UInt8) : Bool := bat l 0 == 35 || (bat l 0 == 47 && !begins l [47, 47]) || begins l [46, 47] || begins l [46, 46, 47]

theorem begins_two (l : List UInt8) (x y : UInt8) (h : 2 ≤ l.length) : begins l [x, y] = (bat l 0 == (x.toNat : Int) && bat l 1 == (y.toNat : Int)) := by
  match l, h with
  | a :: b :: r, _ =>
    simp only [begins, List.length_cons, List.length_nil, List.take_succ_cons, List.take_zero, bat, List.getD_cons_zero, List.getD_cons_succ]
    have e : ∀ (u v : UInt8), (u == v) = ((u.toNat : Int) == (v.toNat : Int)) := fun u v => by
      rw [Bool.eq_iff_iff]; simp only [beq_iff_eq, ← UInt8.toNat_inj]; omega
    rw [← e, ← e]
    simp [Bool.beq_eq_decide_eq]

set_option maxHeartbeats 800000 in
theorem isRel_any (p : Option Addr) (n c : Nat) (l : List UInt8) (w : World) (h : Bs w p n l) (hc : n ≤ c) (hcm : c ≤ maxLen) (hn : 0 < n) :
    Calls Try.prog 30 #[.slice p n c] w fun e w' => e = .returned (.bool (relative l)) ∧ Below w.heap.size w w' := by
  obtain ⟨b, o, rfl, hlt, hcell⟩ := h.cells hn
  have c0 := hcell 0 hn
  rw [Nat.add_zero] at c0
  have kc := conv_first
  have kc2 := conv_second
  by_cases h35 : bat l 0 = 35
  · have h35' : (bat l 0 == 35) = true := by simp [h35]
    have hr : relative l = true := by simp [relative, h35]
    have HR := Lib.hid hr
    clear hr hcell h35
    go_enter Try.func30, Try.ntmps30
    go_wp2_with fail
    go_ret
    exact ⟨ret_bool (by rw [HR.out]), Below.refl _ _⟩
  have h35' : (bat l 0 == 35) = false := by simp [h35]
  have hl := h.len
  obtain ⟨A, hA⟩ : ∃ A, A = (decide (2 ≤ n) && bat l 0 == 47 && bat l 1 != 47) := ⟨_, rfl⟩
  obtain ⟨B, hB⟩ : ∃ B, B = (decide (n = 1) && bat l 0 == 47) := ⟨_, rfl⟩
  obtain ⟨P2, hP2⟩ : ∃ P2, P2 = begins l [46, 47] := ⟨_, rfl⟩
  obtain ⟨P3, hP3⟩ : ∃ P3, P3 = begins l [46, 46, 47] := ⟨_, rfl⟩
  have hr : relative l = (A || B || P2 || P3) := by
    rw [relative, hA, hB, hP2, hP3, h35']
    by_cases h2 : 2 ≤ n
    · rw [begins_two l 47 47 (by omega)]
      have h1 : ¬ n = 1 := by omega
      show (false || (bat l 0 == 47 && !(bat l 0 == 47 && bat l 1 == 47)) || _ || _) = (decide (2 ≤ n) && bat l 0 == 47 && !(bat l 1 == 47) || _ || _ || _)
      generalize (bat l 0 == 47) = x
      generalize (bat l 1 == 47) = y
      cases x <;> cases y <;> simp [h1, h2]
    · rw [begins_short (show l.length < [(47 : UInt8), 47].length by simp; omega)]
      have h1 : n = 1 := by omega
      simp [h1]
  have HR := Lib.hid hr
  have HA := Lib.hid hA
  have HB := Lib.hid hB
  have HP2 := Lib.hid hP2
  have HP3 := Lib.hid hP3
  clear hr hA hB h35 hl hP2 hP3
  go_enter Try.func30, Try.ntmps30
  go_upto_region 3 with fail
  go_cut [21] (fun s wx => s = .bool A ∧ wx = w)
  case first =>
    by_cases h2 : 2 ≤ n
    · have c1 := hcell 1 (by omega)
      by_cases h47 : bat l 0 = 47
      · have h47' : (bat l 0 == 47) = true := by simp [h47]
        have hA : A = (bat l 1 != 47) := by rw [HA.out]; simp [h2, h47]
        have HA2 := Lib.hid hA
        clear hA h47
        go_wp2_with fail
        go_meet
        exact ⟨by rw [HA2.out], rfl⟩
      · have h47' : (bat l 0 == 47) = false := by simp [h47]
        have hA : A = false := by rw [HA.out]; simp [h47]
        have HA2 := Lib.hid hA
        clear hA h47
        go_wp2_with fail
        go_meet
        exact ⟨by rw [HA2.out], rfl⟩
    · have hA : A = false := by rw [HA.out]; simp [h2]
      have HA2 := Lib.hid hA
      clear hA
      go_wp2_with fail
      go_meet
      exact ⟨by rw [HA2.out], rfl⟩
  case rest =>
    obtain ⟨rfl, rfl⟩ := hcut
    cases A with
    | true =>
      go_wp2_with fail
      go_ret
      exact ⟨ret_bool (by rw [HR.out]; rfl), Below.refl _ _⟩
    | false =>
      go_upto_region 5 with fail
      go_cut [30] (fun s wx => s = .bool B ∧ wx = wc)
      case first =>
        by_cases h1 : n = 1
        · have h1' : ((n : Int) == 1) = true := by simp; omega
          have hB : B = (bat l 0 == 47) := by rw [HB.out]; simp [h1]
          have HB2 := Lib.hid hB
          clear hB h1
          go_wp2_with fail
          go_meet
          exact ⟨by rw [HB2.out], rfl⟩
        · have h1' : ((n : Int) == 1) = false := by simp; omega
          have hB : B = false := by rw [HB.out]; simp [h1]
          have HB2 := Lib.hid hB
          clear hB h1
          go_wp2_with fail
          go_meet
          exact ⟨by rw [HB2.out], rfl⟩
      case rest =>
        rename_i w0
        obtain ⟨rfl, rfl⟩ := hcut
        cases B with
        | true =>
          go_wp2_with fail
          go_ret
          exact ⟨ret_bool (by rw [HR.out]; rfl), Below.refl _ _⟩
        | false =>
          go_wp2_with fail
          refine (hasPrefix_any _ _ n c 2 2 l [46, 47] _ ?h1 ?h2 hc hcm (by omega)).mono ?_
          case h1 => exact h.below ((Below.refl _ _).alloc (Nat.le_refl _) _) (Nat.le_refl _)
          case h2 => exact Bs.new _ [46, 47] _ _ _ 2 rfl rfl
          rintro e w1 ⟨rfl, rfl⟩
          rw [← HP2.out]
          cases P2 with
          | true =>
            go_wp2_with fail
            go_ret
            exact ⟨ret_bool (by rw [HR.out]; rfl), (Below.refl _ _).alloc (Nat.le_refl _) _⟩
          | false =>
            go_wp2_with fail
            refine (hasPrefix_any _ _ n c 3 3 l [46, 46, 47] _ ?h1 ?h2 hc hcm (by omega)).mono ?_
            case h1 => exact h.below (((Below.refl _ _).alloc (Nat.le_refl _) _).alloc (by simp) _) (Nat.le_refl _)
            case h2 => exact Bs.newAt _ _ (by simp) [46, 46, 47] _ _ _ 3 rfl rfl
            rintro e w1 ⟨rfl, rfl⟩
            rw [← HP3.out]
            cases P3 with
            | true =>
              go_wp2_with fail
              go_ret
              exact ⟨ret_bool (by rw [HR.out]; rfl), ((Below.refl _ _).alloc (Nat.le_refl _) _).alloc (by simp) _⟩
            | false =>
              go_wp2_with fail
              go_ret
              exact ⟨ret_bool (by rw [HR.out]; rfl), ((Below.refl _ _).alloc (Nat.le_refl _) _).alloc (by simp) _⟩

theorem isRelDoor_any (p : Option Addr) (n c : Nat) (l : List UInt8) (w : World) (h : Bs w p n l) (hc : n ≤ c) (hcm : c ≤ maxLen) (hn : 0 < n) :
    Calls Try.prog 24 #[.slice p n c] w fun e w' => e = .returned (.bool (relative l)) ∧ Below w.heap.size w w' := by
  go_enter Try.func24, Try.ntmps24
  go_wp2_with fail
  refine (isRel_any p n c l _ h hc hcm hn).mono ?_
  rintro e w' ⟨rfl, hb⟩
  go_wp2_with fail
  go_ret
  exact ⟨rfl, hb⟩

theorem implRel_any (p : Option Addr) (n c : Nat) (l : List UInt8) (w : World) (h : Bs w p n l) (hn : 0 < n) (hb : n ≤ 140737488355328) :
    Calls Try.prog 16 #[.slice p n c] w fun e w' => e = .returned (.bool (relative l)) ∧ Below w.heap.size w w' := by
  have hp : (0 : Int) < (n : Int) := by omega
  go_enter Try.func16, Try.ntmps16
  go_wp2_with fail
  refine (own_bs p n c l _ h hb).mono ?_
  rintro e w1 ⟨p', c', rfl, hc', hcm, h1, hb1⟩
  go_wp2_with fail
  refine (isRelDoor_any p' n c' l _ h1 hc' hcm hn).mono ?_
  rintro e w2 ⟨rfl, hb2⟩
  go_wp2_with fail
  go_ret
  exact ⟨rfl, hb1.trans (hb2.mono hb1.size)⟩

set_option maxHeartbeats 800000 in
theorem specRel_any (p : Option Addr) (n c : Nat) (l : List UInt8) (w : World) (h : Bs w p n l) (hc : n ≤ c) (hcm : c ≤ maxLen) (hn : 0 < n) :
    Calls Try.prog 17 #[.slice p n c] w fun e w' => e = .returned (.bool (relative l)) ∧ w = w' := by
  obtain ⟨b, o, rfl, hlt, hcell⟩ := h.cells hn
  have c0 := hcell 0 hn
  rw [Nat.add_zero] at c0
  have e1 : (⟨#[47, 47]⟩ : ByteArray).toList = [47, 47] := by rw [Lib.toList_data]
  have e2 : (⟨#[46, 47]⟩ : ByteArray).toList = [46, 47] := by rw [Lib.toList_data]
  have e3 : (⟨#[46, 46, 47]⟩ : ByteArray).toList = [46, 46, 47] := by rw [Lib.toList_data]
  have b1 := begins_any _ n c l ⟨#[47, 47]⟩ w h hc hcm (by decide) (by decide)
  have b2 := begins_any _ n c l ⟨#[46, 47]⟩ w h hc hcm (by decide) (by decide)
  have b3 := begins_any _ n c l ⟨#[46, 46, 47]⟩ w h hc hcm (by decide) (by decide)
  rw [e1] at b1
  rw [e2] at b2
  rw [e3] at b3
  obtain ⟨P1, hP1⟩ : ∃ P1, P1 = begins l [47, 47] := ⟨_, rfl⟩
  obtain ⟨P2, hP2⟩ : ∃ P2, P2 = begins l [46, 47] := ⟨_, rfl⟩
  obtain ⟨P3, hP3⟩ : ∃ P3, P3 = begins l [46, 46, 47] := ⟨_, rfl⟩
  have hr : relative l = (bat l 0 == 35 || (bat l 0 == 47 && !P1) || P2 || P3) := by rw [relative, hP1, hP2, hP3]
  rw [← hP1] at b1
  rw [← hP2] at b2
  rw [← hP3] at b3
  have HR := Lib.hid hr
  have B1 := Lib.hid b1
  have B2 := Lib.hid b2
  have B3 := Lib.hid b3
  clear hr b1 b2 b3 hP1 hP2 hP3 e1 e2 e3 hcell
  by_cases h35 : bat l 0 = 35
  · have h35' : (bat l 0 == 35) = true := by simp [h35]
    clear h35
    go_enter Try.func17, Try.ntmps17
    go_wp2_with fail
    go_ret
    exact ⟨ret_bool (by rw [HR.out, h35']; rfl), rfl⟩
  have h35' : (bat l 0 == 35) = false := by simp [h35]
  clear h35
  by_cases h47 : bat l 0 = 47
  · have h47' : (bat l 0 == 47) = true := by simp [h47]
    clear h47
    cases P1 <;> cases P2 <;> cases P3
    all_goals
      go_enter Try.func17, Try.ntmps17
      go_wp2_with (first | (go_at_call_of 25 (Value.string ⟨#[47, 47]⟩); refine B1.out.mono ?_; rintro e w' ⟨rfl, rfl⟩) | (go_at_call_of 25 (Value.string ⟨#[46, 47]⟩); refine B2.out.mono ?_; rintro e w' ⟨rfl, rfl⟩) | (go_at_call_of 25 (Value.string ⟨#[46, 46, 47]⟩); refine B3.out.mono ?_; rintro e w' ⟨rfl, rfl⟩))
      go_ret
      exact ⟨ret_bool (by rw [HR.out, h35', h47']; rfl), rfl⟩
  · have h47' : (bat l 0 == 47) = false := by simp [h47]
    clear h47
    cases P2 <;> cases P3
    all_goals
      go_enter Try.func17, Try.ntmps17
      go_wp2_with (first | (go_at_call_of 25 (Value.string ⟨#[46, 47]⟩); refine B2.out.mono ?_; rintro e w' ⟨rfl, rfl⟩) | (go_at_call_of 25 (Value.string ⟨#[46, 46, 47]⟩); refine B3.out.mono ?_; rintro e w' ⟨rfl, rfl⟩))
      go_ret
      exact ⟨ret_bool (by rw [HR.out, h35', h47']; rfl), rfl⟩

/-- FnRelative returns true and nothing that was there turns -/
theorem fnRelative_law (p : Option Addr) (n c : Nat) (l : List UInt8) (w : World) (h : Bs w p n l) (hc : n ≤ c) (hcm : c ≤ maxLen) :
    Calls Try.prog 7 #[.slice p n c] w fun e w' => e = .returned (.bool true) ∧ Below w.heap.size w w' := by
  have hcm' : c ≤ 2 ^ 63 - 1 := hcm
  by_cases hsmall : n < 1
  · go_enter Try.func7, Try.ntmps7
    go_wp2_with fail
    go_ret
    exact ⟨rfl, Below.refl _ _⟩
  by_cases hbig : 2000 < n
  · by_cases hbig2 : 2147483647 < n
    · go_enter Try.func7, Try.ntmps7
      go_wp2_with fail
      go_ret
      exact ⟨rfl, Below.refl _ _⟩
    · go_enter Try.func7, Try.ntmps7
      go_wp2_with fail
      go_ret
      exact ⟨rfl, Below.refl _ _⟩
  have kc := conv_first
  go_enter Try.func7, Try.ntmps7
  go_wp2_with fail
  refine (clone_bs p n c l _ h (by omega)).mono ?_
  rintro e w1 ⟨p', c', rfl, hc', hcm1, h1, hb⟩
  go_wp2_with fail
  refine (implRel_any p' n c' l _ h1 (by omega) (by omega)).mono ?_
  rintro e w2 ⟨rfl, hb2⟩
  have hb12 := hb.trans (hb2.mono hb.size)
  have h2 : Bs w2 p n l := h.below hb12 (Nat.le_refl _)
  go_wp2_with fail
  refine (specRel_any p n c l _ h2 hc hcm (by omega)).mono ?_
  rintro e w3 ⟨rfl, rfl⟩
  go_wp2_with fail
  refine (implRel_any _ 2 2 [35, 97] _ (Bs.new w2 [35, 97] _ _ _ 2 rfl rfl) (by omega) (by omega)).mono ?_
  rintro e w3 ⟨rfl, hb3⟩
  go_wp2_with fail
  go_ret
  exact ⟨rfl, hb12.trans (((Below.refl _ _).alloc (Nat.le_refl _) _).trans (hb3.mono (by simp)) |>.mono hb12.size)⟩

end Go.Proofs.Ytnoaoehpmjljeaa
