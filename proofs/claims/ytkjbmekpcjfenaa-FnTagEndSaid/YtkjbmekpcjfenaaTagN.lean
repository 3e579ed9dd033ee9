/- FnTagEnd walked. No condition. -/
import Derived.Test.YtkjbmekpcjfenaaTagM
namespace Go.Proofs.Ytkjbmekpcjfenaa
open Go.ChangeShapes Go.WideShapes Go.ChangeAt Go.RowKit

def plainL (l : List UInt8) : Bool := l.all fun c => decide (c.toNat < 128)
theorem plain_snoc (l : List UInt8) (c : UInt8) : plainL (l ++ [c]) = (plainL l && decide (c.toNat < 128)) := by simp [plainL]
theorem all_take {l : List UInt8} {p : UInt8 → Bool} {k : Nat} (h : (l.take k).all p = false) : l.all p = false := by
  rw [List.all_eq_false] at h ⊢
  obtain ⟨x, hx, hp⟩ := h
  exact ⟨x, List.mem_of_mem_take hx, hp⟩
theorem plain_bat {l : List UInt8} (h : plainL l = true) (k : Nat) : bat l k < 128 := by
  unfold plainL at h
  rw [List.all_eq_true] at h
  unfold bat
  rcases Nat.lt_or_ge k l.length with hk | hk
  · have := h l[k] (List.getElem_mem hk)
    simp only [decide_eq_true_eq] at this
    simp only [List.getD, List.getElem?_eq_getElem hk, Option.getD_some]
    omega
  · simp [List.getD, List.getElem?_eq_none hk]

set_option maxHeartbeats 400000 in
theorem isPlain_any (s : ByteArray) (w : World) (_hs : s.size ≤ maxLen) :
    Calls Try.prog 8 #[.string s] w fun e w' => e = .returned (.bool (plainL s.data.toList)) ∧ w = w' := by
  unfold maxLen at _hs
  go_enter Try.func8, Try.ntmps8
  go_wp2
  go_loop [3] (fun t => ∃ k : Nat, k ≤ s.size ∧ t = .int .i64 k ∧ plainL (s.data.toList.take k) = true) (fun t => s.size - (intOf t).toNat)
  case atStart => exact ⟨0, Nat.zero_le _, rfl, rfl⟩
  case round =>
    obtain ⟨k, hk, rfl, hp⟩ := hrel
    have HP := Lib.hid hp
    clear hp
    by_cases hlt : k < s.size
    · have hsn := plain_snoc (s.data.toList.take k) s[k]
      rw [← take_snoc s k hlt, HP.out] at hsn
      have HS := Lib.hid hsn
      clear hsn
      by_cases ha : s[k].toNat < 128
      · have ha' : decide ((128 : Int) ≤ ((s[k].toNat : Nat) : Int)) = false := by simp; omega
        go_wp2
        go_round
        case rel => exact ⟨k + 1, by omega, by go_num, by rw [HS.out]; simp [ha]⟩
        case measure => simp [intOf]; omega
      · have ha' : decide ((128 : Int) ≤ ((s[k].toNat : Nat) : Int)) = true := by simp; omega
        go_wp2
        go_ret
        refine ⟨ret_bool ?_, rfl⟩
        have : plainL (s.data.toList.take (k + 1)) = false := by rw [HS.out]; simp [ha]
        exact (all_take this).symm
    · go_wp2
      go_ret
      refine ⟨ret_bool ?_, rfl⟩
      have hsz : s.data.toList.length = s.size := rfl
      have := HP.out
      rw [List.take_of_length_le (by omega)] at this
      exact this.symm

theorem tagDoor_any (p : Option Addr) (n c : Nat) (l : List UInt8) (w : World) (h : Bs w p n l) (hnc : n ≤ c) (hcm : c ≤ maxLen) (hn : n ≤ 1000000) (ha : ∀ k, bat l k < 128) :
    Calls Try.prog 14 #[.slice p n c] w fun e w' => e = .returned (.int .i64 (tagE l)) ∧ Below w.heap.size w w' := by
  go_enter Try.func14, Try.ntmps14
  go_wp2_with fail
  refine (zzTagEnd_any p n c l _ h hnc hcm hn ha).mono ?_
  rintro e w' ⟨rfl, hb⟩
  go_wp2_with fail
  go_ret
  exact ⟨rfl, hb⟩

theorem implTag_any (p : Option Addr) (n c : Nat) (l : List UInt8) (w : World) (h : Bs w p n l) (hn : n ≤ 1000000) (ha : ∀ k, bat l k < 128) :
    Calls Try.prog 9 #[.slice p n c] w fun e w' => e = .returned (.int .i64 (tagE l)) ∧ Below w.heap.size w w' := by
  have HA := Lib.hid ha
  clear ha
  go_enter Try.func9, Try.ntmps9
  go_wp2_with fail
  refine (own_bs p n c l _ h (by omega)).mono ?_
  rintro e w1 ⟨p', c', rfl, hc', hcm, h1, hb1⟩
  go_wp2_with fail
  refine (tagDoor_any p' n c' l _ h1 hc' hcm hn HA.out).mono ?_
  rintro e w2 ⟨rfl, hb2⟩
  go_wp2_with fail
  go_ret
  exact ⟨rfl, hb1.trans (hb2.mono hb1.size)⟩

/-- FnTagEnd returns true and nothing that was there turns -/
theorem fnTagEnd_law (p : Option Addr) (n c : Nat) (l : List UInt8) (w : World) (h : Bs w p n l) (hnc : n ≤ c) (hcm : c ≤ maxLen) :
    Calls Try.prog 4 #[.slice p n c] w fun e w' => e = .returned (.bool true) ∧ Below w.heap.size w w' := by
  have hcm' : c ≤ 2 ^ 63 - 1 := hcm
  have hl := h.len
  by_cases hbig : 500 < n
  · clear hl
    by_cases hbig2 : 2147483647 < n
    · go_enter Try.func4, Try.ntmps4
      go_wp2_with fail
      go_ret
      exact ⟨rfl, Below.refl _ _⟩
    · go_enter Try.func4, Try.ntmps4
      go_wp2_with fail
      go_ret
      exact ⟨rfl, Below.refl _ _⟩
  have hz : (str l).size ≤ maxLen := by
    have : (str l).size = l.length := by simp [str, ByteArray.size]
    rw [this, hl]; unfold maxLen; omega
  have cp := isPlain_any (str l) w hz
  have hcv := h.convert c
  have hdl : (str l).data.toList = l := rfl
  rw [hdl] at cp
  clear hl hz hdl
  by_cases hp : plainL l = true
  · rw [hp] at cp
    have CP := Lib.hid cp
    have HA := Lib.hid (plain_bat hp)
    have kc := conv_first
    have hx : tagE [60, 97, 32, 98, 61, 39, 99, 39, 62] = 9 := by decide +kernel
    have HX := Lib.hid hx
    clear hx cp
    go_enter Try.func4, Try.ntmps4
    go_wp2_with fail
    refine CP.out.mono ?_
    rintro e w1 ⟨rfl, rfl⟩
    clear hcv
    go_wp2_with fail
    refine (clone_bs p n c l _ h (by omega)).mono ?_
    rintro e w1 ⟨p', c', rfl, hc', hcm1, h1, hb⟩
    go_wp2_with fail
    refine (implTag_any p' n c' l _ h1 (by omega) HA.out).mono ?_
    rintro e w2 ⟨rfl, hb2⟩
    have hb12 := hb.trans (hb2.mono hb.size)
    have h2 : Bs w2 p n l := h.below hb12 (Nat.le_refl _)
    go_wp2_with fail
    refine (specTagEnd_any p n c l _ h2 hnc hcm (by omega)).mono ?_
    rintro e w3 ⟨rfl, hb3⟩
    have hb13 := hb12.trans (hb3.mono hb12.size)
    go_wp2_with fail
    refine (implTag_any _ 9 9 [60, 97, 32, 98, 61, 39, 99, 39, 62] _ (Bs.new w3 [60, 97, 32, 98, 61, 39, 99, 39, 62] _ _ _ 9 rfl rfl) (by omega) (plain_bat (by decide +kernel))).mono ?_
    rw [HX.out]
    rintro e w4 ⟨rfl, hb4⟩
    go_wp2_with fail
    go_ret
    exact ⟨rfl, hb13.trans (((Below.refl _ _).alloc (Nat.le_refl _) _).trans (hb4.mono (by simp)) |>.mono hb13.size)⟩
  · have hp' : plainL l = false := by simpa using hp
    rw [hp'] at cp
    have CP := Lib.hid cp
    clear cp hp
    go_enter Try.func4, Try.ntmps4
    go_wp2_with fail
    refine CP.out.mono ?_
    rintro e w1 ⟨rfl, rfl⟩
    clear hcv
    go_wp2_with fail
    go_ret
    exact ⟨rfl, Below.refl _ _⟩

end Go.Proofs.Ytkjbmekpcjfenaa
