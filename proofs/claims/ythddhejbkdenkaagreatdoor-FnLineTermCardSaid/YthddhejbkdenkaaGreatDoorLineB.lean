/- Lines: the specification's prefixes walked. Condition: lengths are bounded. -/
import Derived.Test.YthddhejbkdenkaaGreatDoorLineA
import Derived.Test.YthddhejbkdenkaaGreatDoorFenB
namespace Go.Proofs.YthddhejbkdenkaaGreatDoor
open Go.ChangeShapes Go.WideShapes Go.ChangeAt Go.RowKit

set_option maxHeartbeats 1000000 in
theorem sBul_any (p : Option Addr) (n c : Nat) (l : List UInt8) (w : World) (h : Bs w p n l) (hn : n ≤ 1000000) :
    Calls Tryz.prog 11 #[.slice p n c] w fun e w' => e = .returned (.int .i64 (bulF l)) ∧ w = w' := by
  have hl := h.len
  have HB := Lib.hid (blanks_any p n c l 3 w h (by omega) (by decide))
  obtain ⟨k, hk⟩ : ∃ k, k = lead 3 l := ⟨_, rfl⟩
  have hkl : k ≤ n := by rw [hk, ← hl]; exact lead_len 3 l
  have hF : bulF l = if k + 1 < l.length ∧ (markI (bat l k) && blankI (bat l (k + 1))) = true then k + 2 else 0 := by unfold bulF; rw [← hk]
  rw [← hk] at HB
  clear hk
  by_cases h1 : k + 1 < n
  · obtain ⟨b, o, rfl, _, hc⟩ := h.cells (by omega)
    have c0 := hc k (by omega)
    have c1 := hc (k + 1) (by omega)
    rw [hl] at hF
    have HF := Lib.hid hF
    clear hc hF h hl
    go_enter Tryz.func11, Tryz.ntmps11
    go_wp2_with (go_at_call 29; refine HB.out.mono ?_; rintro e w1 ⟨rfl, rfl⟩)
    all_goals go_ret
    all_goals refine ⟨ret_int ?_, rfl⟩
    all_goals rw [HF.out]
    all_goals (clear HF HB c0 c1; simp_all [markI, blankI])
    all_goals first | omega | (split <;> omega)
  · have hF0 : bulF l = 0 := by rw [hF, if_neg (by rw [hl]; omega)]
    have HF := Lib.hid hF0
    clear hF hF0 hl h
    go_enter Tryz.func11, Tryz.ntmps11
    go_wp2_with (go_at_call 29; refine HB.out.mono ?_; rintro e w1 ⟨rfl, rfl⟩)
    go_ret
    exact ⟨ret_int (by rw [HF.out]; rfl), rfl⟩

set_option maxHeartbeats 1000000 in
theorem sTerm_any (p : Option Addr) (n c : Nat) (l : List UInt8) (w : World) (h : Bs w p n l) (hn : n ≤ 1000000) :
    Calls Tryz.prog 16 #[.slice p n c] w fun e w' => e = .returned (.int .i64 (termF l)) ∧ w = w' := by
  have hl := h.len
  have hF : termF l = if 1 < n ∧ (bat l 0 == 58 && blankI (bat l 1)) = true then 2 else 0 := by unfold termF; rw [hl]
  have HF := Lib.hid hF
  clear hF
  by_cases h1 : 1 < n
  · obtain ⟨b, o, rfl, _, hc⟩ := h.cells (by omega)
    have c0 := hc 0 (by omega)
    have c1 := hc 1 (by omega)
    simp only [Nat.add_zero] at c0
    clear hc h hl
    go_enter Tryz.func16, Tryz.ntmps16
    go_wp2_with fail
    all_goals go_ret
    all_goals refine ⟨ret_int ?_, rfl⟩
    all_goals rw [HF.out]
    all_goals (clear HF c0 c1; simp_all [blankI])
    all_goals first | omega | (split <;> omega)
  · clear h hl
    go_enter Tryz.func16, Tryz.ntmps16
    go_wp2_with fail
    go_ret
    exact ⟨ret_int (by rw [HF.out, if_neg (by omega)]; rfl), rfl⟩

set_option maxHeartbeats 1000000 in
theorem sQuo_any (p : Option Addr) (n c : Nat) (l : List UInt8) (w : World) (h : Bs w p n l) (hn : n ≤ 1000000) :
    Calls Tryz.prog 15 #[.slice p n c] w fun e w' => e = .returned (.int .i64 (quoF l)) ∧ w = w' := by
  have hl := h.len
  have HB := Lib.hid (blanks_any p n c l 3 w h (by omega) (by decide))
  obtain ⟨k, hk⟩ : ∃ k, k = lead 3 l := ⟨_, rfl⟩
  have hkl : k ≤ n := by rw [hk, ← hl]; exact lead_len 3 l
  have hF : quoF l = if k < n ∧ (bat l k == 62) = true then (if k + 1 < n ∧ (bat l (k + 1) == 32) = true then k + 2 else k + 1) else 0 := by unfold quoF; rw [← hk, hl]
  have HF := Lib.hid hF
  rw [← hk] at HB
  clear hk hF
  by_cases h1 : k < n
  · obtain ⟨b, o, rfl, _, hc⟩ := h.cells (by omega)
    have c0 := hc k (by omega)
    by_cases h2 : k + 1 < n
    · have c1 := hc (k + 1) (by omega)
      clear hc h hl
      go_enter Tryz.func15, Tryz.ntmps15
      go_wp2_with (go_at_call 29; refine HB.out.mono ?_; rintro e w1 ⟨rfl, rfl⟩)
      all_goals go_ret
      all_goals refine ⟨ret_int ?_, rfl⟩
      all_goals rw [HF.out]
      all_goals (clear HF HB c0 c1; simp_all)
      all_goals first | omega | (split <;> omega)
    · clear hc h hl
      go_enter Tryz.func15, Tryz.ntmps15
      go_wp2_with (go_at_call 29; refine HB.out.mono ?_; rintro e w1 ⟨rfl, rfl⟩)
      all_goals go_ret
      all_goals refine ⟨ret_int ?_, rfl⟩
      all_goals rw [HF.out]
      all_goals (clear HF HB c0; simp_all)
      all_goals first | omega | (split <;> omega)
  · have hke : k = n := by omega
    clear h hl
    go_enter Tryz.func15, Tryz.ntmps15
    go_wp2_with (go_at_call 29; refine HB.out.mono ?_; rintro e w1 ⟨rfl, rfl⟩)
    all_goals go_ret
    all_goals exact ⟨ret_int (by rw [HF.out, if_neg (by omega)]; rfl), rfl⟩

end Go.Proofs.YthddhejbkdenkaaGreatDoor
