/- FnEscaped: the functions that ask whether a byte is escaped, walked. No condition. -/
import Derived.Test.YtnoaoehpmjljeaaOwn
namespace Go.Proofs.Ytnoaoehpmjljeaa
open Go.ChangeShapes Go.WideShapes Go.ChangeAt Go.RowKit

/-- how many backslashes stand directly ahead of place i -/
def slashes (l : List UInt8) : Nat → Nat
  | 0 => 0
  | i + 1 => if bat l i = 92 then slashes l i + 1 else 0

theorem slashes_le (l : List UInt8) (i : Nat) : slashes l i ≤ i := by
  induction i with
  | zero => simp [slashes]
  | succ i ih => simp only [slashes]; split <;> omega

theorem slashes_step (l : List UInt8) (i k : Nat) (hk : k < i) (h : bat l (i - k - 1) = 92) : slashes l (i - k) = slashes l (i - k - 1) + 1 := by
  obtain ⟨m, hm⟩ : ∃ m, i - k = m + 1 := ⟨i - k - 1, by omega⟩
  have e : i - k - 1 = m := by omega
  rw [e] at h ⊢
  rw [hm, slashes, if_pos h]

theorem slashes_stop (l : List UInt8) (i k : Nat) (hk : k < i) (h : ¬ bat l (i - k - 1) = 92) : slashes l (i - k) = 0 := by
  obtain ⟨m, hm⟩ : ∃ m, i - k = m + 1 := ⟨i - k - 1, by omega⟩
  have e : i - k - 1 = m := by omega
  rw [e] at h
  rw [hm, slashes, if_neg h]

/-- the test on the rest by 2, as the walk spells it -/
theorem odd_beq (k : Nat) : ((k : Int) % 2 == 1) = (k % 2 == 1) := by
  rw [Bool.eq_iff_iff]; simp; omega

theorem isEsc_any (p : Option Addr) (n c : Nat) (l : List UInt8) (i : Nat) (w : World) (h : Bs w p n l) (hi : i < n) (hn : n ≤ 2147483647) :
    Calls Try.prog 27 #[.slice p n c, .int .i64 i] w fun e w' => e = .returned (.bool (slashes l i % 2 == 1)) ∧ w = w' := by
  have hl := slashes_le l i
  obtain ⟨b, o, rfl, hlt, hc⟩ := h.cells (by omega)
  go_enter Try.func27, Try.ntmps27
  go_wp2
  go_loop [5] (fun t => ∃ k : Nat, k ≤ i ∧ slashes l i = k + slashes l (i - k) ∧ t = .int .i64 k) (fun t => i - (intOf t).toNat)
  case atStart => exact ⟨0, Nat.zero_le _, by simp, rfl⟩
  case round =>
    obtain ⟨k, hk, hs, rfl⟩ := hrel
    have HS := Lib.hid hs
    clear hs
    have ea := and_one k (by omega)
    by_cases hlt : k < i
    · have hcell := hc (i - k - 1) (by omega)
      go_wp2
      · go_round
        case rel =>
          have hb : bat l (i - k - 1) = 92 := eq_of_beq (by assumption)
          have := slashes_step l i k hlt hb
          have hs := HS.out
          exact ⟨k + 1, by omega, by rw [hs, this, Nat.sub_sub]; omega, by go_num⟩
        case measure => simp [intOf]; omega
      · go_ret
        have hb : ¬ bat l (i - k - 1) = 92 := by
          have : (bat l (i - k - 1) == 92) = false := by assumption
          simpa using this
        have := slashes_stop l i k hlt hb
        have hs := HS.out
        refine ⟨ret_bool ?_, rfl⟩
        rw [hs, this, Nat.add_zero, ← odd_beq k]
    · go_wp2
      go_ret
      have hs := HS.out
      obtain rfl : k = i := by omega
      refine ⟨ret_bool ?_, rfl⟩
      rw [hs, Nat.sub_self, slashes, Nat.add_zero, ← odd_beq k]

theorem specEsc_any (p : Option Addr) (n c : Nat) (l : List UInt8) (i : Nat) (w : World) (h : Bs w p n l) (hi : i < n) (hn : n ≤ 2147483647) :
    Calls Try.prog 11 #[.slice p n c, .int .i64 i] w fun e w' => e = .returned (.bool (slashes l i % 2 == 1)) ∧ w = w' := by
  obtain ⟨b, o, rfl, hlt, hc⟩ := h.cells (by omega)
  go_enter Try.func11, Try.ntmps11
  go_wp2
  go_loop [1, 5] (fun u t => ∃ k : Nat, k ≤ i ∧ slashes l i = k + slashes l (i - k) ∧ t = .int .i64 k ∧ u = .int .i64 (i - k : Nat)) (fun _ t => i - (intOf t).toNat)
  case atStart => exact ⟨0, Nat.zero_le _, by simp, rfl, rfl⟩
  case round =>
    obtain ⟨k, hk, hs, rfl, rfl⟩ := hrel
    have HS := Lib.hid hs
    clear hs
    by_cases hlt : k < i
    · have hcell := hc (i - k - 1) (by omega)
      go_wp2
      · go_round
        case rel =>
          have hb : bat l (i - k - 1) = 92 := eq_of_beq (by assumption)
          have := slashes_step l i k hlt hb
          have hs := HS.out
          exact ⟨k + 1, by omega, by rw [hs, this, Nat.sub_sub]; omega, by go_num, by rw [← Nat.sub_sub]; go_num⟩
        case measure => simp [intOf]; omega
      · go_ret
        have hb : ¬ bat l (i - k - 1) = 92 := by
          have : (bat l (i - k - 1) == 92) = false := by assumption
          simpa using this
        have := slashes_stop l i k hlt hb
        have hs := HS.out
        refine ⟨ret_bool ?_, rfl⟩
        rw [hs, this, Nat.add_zero, ← odd_beq k]
    · go_wp2
      go_ret
      have hs := HS.out
      obtain rfl : k = i := by omega
      refine ⟨ret_bool ?_, rfl⟩
      rw [hs, Nat.sub_self, slashes, Nat.add_zero, ← odd_beq k]

theorem isEscDoor_any (p : Option Addr) (n c : Nat) (l : List UInt8) (i : Nat) (w : World) (h : Bs w p n l) (hi : i < n) (hn : n ≤ 2147483647) :
    Calls Try.prog 20 #[.slice p n c, .int .i64 i] w fun e w' => e = .returned (.bool (slashes l i % 2 == 1)) ∧ w = w' := by
  go_enter Try.func20, Try.ntmps20
  go_wp2_with (go_at_call 27; refine (isEsc_any p n c l i _ h hi hn).mono ?_; rintro e w' ⟨rfl, rfl⟩)
  go_ret
  exact ⟨rfl, rfl⟩

theorem implEsc_any (p : Option Addr) (n c : Nat) (l : List UInt8) (i : Nat) (w : World) (h : Bs w p n l) (hi : i < n) (hn : n ≤ 2147483647) :
    Calls Try.prog 9 #[.slice p n c, .int .i64 i] w fun e w' => e = .returned (.bool (slashes l i % 2 == 1)) ∧ Below w.heap.size w w' := by
  go_enter Try.func9, Try.ntmps9
  go_wp2_with fail
  refine (own_bs p n c l _ h (by omega)).mono ?_
  rintro e w1 ⟨p', c', rfl, hc', _, h1, hb⟩
  go_wp2_with (go_at_call 20; refine (isEscDoor_any p' n c' l i _ h1 hi hn).mono ?_; rintro e w' ⟨rfl, rfl⟩)
  go_ret
  exact ⟨rfl, hb⟩

/-- FnEscaped returns true and nothing that was there turns -/
theorem fnEscaped_law (p : Option Addr) (n c : Nat) (l : List UInt8) (i : Int) (w : World) (h : Bs w p n l) (hn : n ≤ maxLen) :
    Calls Try.prog 3 #[.slice p n c, .int .i64 i] w fun e w' => e = .returned (.bool true) ∧ Below w.heap.size w w' := by
  unfold maxLen at hn
  by_cases hbig : 2000 < n
  · by_cases hbig2 : 2147483647 < n
    · go_enter Try.func3, Try.ntmps3
      go_wp2_with fail
      go_ret
      exact ⟨rfl, Below.refl _ _⟩
    · go_enter Try.func3, Try.ntmps3
      go_wp2_with fail
      go_ret
      exact ⟨rfl, Below.refl _ _⟩
  · by_cases hneg : i < 0
    · go_enter Try.func3, Try.ntmps3
      go_wp2_with fail
      go_ret
      exact ⟨rfl, Below.refl _ _⟩
    · obtain ⟨k, rfl⟩ := Int.eq_ofNat_of_zero_le (show 0 ≤ i by omega)
      by_cases hge : n ≤ k
      · go_enter Try.func3, Try.ntmps3
        go_wp2_with fail
        go_ret
        exact ⟨rfl, Below.refl _ _⟩
      · have hk : k < n := by omega
        have kc := conv_first
        go_enter Try.func3, Try.ntmps3
        go_wp2_with fail
        refine (clone_bs p n c l _ h (by omega)).mono ?_
        rintro e w1 ⟨p', c', rfl, hc', _, h1, hb⟩
        go_wp2_with fail
        refine (implEsc_any p' n c' l k _ h1 hk (by omega)).mono ?_
        rintro e w2 ⟨rfl, hb2⟩
        have h2 : Bs w2 p n l := h.below (hb.trans (hb2.mono hb.size)) (Nat.le_refl _)
        go_wp2_with fail
        refine (specEsc_any p n c l k _ h2 hk (by omega)).mono ?_
        rintro e w3 ⟨rfl, rfl⟩
        go_wp2_with fail
        refine (implEsc_any _ 2 2 [92, 97] 1 _ (Bs.new w2 [92, 97] _ _ _ 2 rfl rfl) (by omega) (by omega)).mono ?_
        rintro e w3 ⟨rfl, hb3⟩
        go_wp2_with fail
        go_ret
        exact ⟨rfl, (hb.trans (hb2.mono hb.size)).trans (((Below.refl _ _).alloc (Nat.le_refl _) _).trans (hb3.mono (by simp)) |>.mono (by have := hb.size; have := hb2.size; omega))⟩

end Go.Proofs.Ytnoaoehpmjljeaa
