/- Definitions: isReference walked where there is no definition. Condition: lengths are bounded. -/
import Derived.Test.YtlndmebmcjngfaaGreatDoorDefB
import Derived.Deep.CutBlock
import Derived.Deep.DeepCutAuto
namespace Go.Proofs.YtlndmebmcjngfaaGreatDoor
open Go.ChangeShapes Go.WideShapes Go.ChangeAt Go.RowKit

theorem low_not {n : Int} (h : lowI n = true) : (n == 32) = false ∧ (n == 91) = false ∧ (n == 94) = false ∧ (n != 10) = true ∧ (n != 13) = true ∧ (n != 93) = true := by
  have := low_range h
  refine ⟨?_, ?_, ?_, ?_, ?_, ?_⟩ <;> simp <;> omega
theorem mid_not {n : Int} (h : (lowI n || n == 58 || n == 32 || n == 47) = true) : (n != 10) = true ∧ (n != 13) = true ∧ (n != 93) = true := by
  simp only [Bool.or_eq_true, beq_iff_eq] at h
  rcases h with ((h | h) | h) | h
  · exact (low_not h).2.2.2
  all_goals rw [h]; decide

set_option maxHeartbeats 4000000 in
set_option maxRecDepth 100000 in
theorem isRef_no4 (ext : Int) (B : Nat) (p : Option Addr) (n c : Nat) (l : List UInt8) (w : World) (h : Bs w p n l) (h4 : 4 ≤ n) (hb : ∀ j, j < 4 → bat l j = 32) (hn : n ≤ 1000000) :
    Calls Tryz.prog 27 #[.pointer (some ⟨B, 0, none⟩), .slice p n c, .int .i64 4] w fun e w' => e = .returned (.int .i64 0) ∧ w = w' := by
  obtain ⟨b, o, rfl, _, hcell⟩ := h.cells (by omega)
  have c0 := hcell 0 (by omega)
  rw [hb 0 (by omega)] at c0
  have c1 := hcell 1 (by omega)
  rw [hb 1 (by omega)] at c1
  have c2 := hcell 2 (by omega)
  rw [hb 2 (by omega)] at c2
  have c3 := hcell 3 (by omega)
  rw [hb 3 (by omega)] at c3
  simp only [Nat.add_zero] at c0
  clear h hcell hb
  go_enter Tryz.func27, Tryz.ntmps27
  go_wp2_with fail
  refine wp_loop_rounds 4 ?_
  rw [rounds_succ]
  go_wp2_with fail
  rw [rounds_succ]
  go_wp2_with fail
  rw [rounds_succ]
  go_wp2_with fail
  rw [rounds_succ]
  go_wp2_with fail
  go_ret
  exact ⟨rfl, rfl⟩

set_option maxHeartbeats 4000000 in
set_option maxRecDepth 100000 in
theorem isRef_noColon (ext : Int) (B : Nat) (p : Option Addr) (n c e : Nat) (l : List UInt8) (w : World) (h : Bs w p n l) (hE : NoColon l e) (hx : w.cell? ⟨B, 259, none⟩ = some (.int .i64 ext)) (hn : n ≤ 1000000) :
    Calls Tryz.prog 27 #[.pointer (some ⟨B, 0, none⟩), .slice p n c, .int .i64 4] w fun e w' => e = .returned (.int .i64 0) ∧ w = w' := by
  have hl := h.len
  have hlen := hE.len
  rw [hl] at hlen
  have hpos := hE.pos
  have hz : e < n := by omega
  have h4 : 4 ≤ n := by omega
  obtain ⟨b, o, rfl, _, hcell⟩ := h.cells (by omega)
  have HC := Lib.hid hcell
  have HE := Lib.hid hE
  have c0 := hcell 0 (by omega)
  rw [hE.open'] at c0
  simp only [Nat.add_zero] at c0
  have c1 := hcell 1 (by omega)
  have q1 : (bat l 1 == 94) = false := (low_not (hE.id 1 (by omega) hpos)).2.2.1
  have ce := hcell e hz
  rw [hE.close] at ce
  have ce1 := hcell (e + 1) (by omega)
  rw [hE.gap] at ce1
  have q3 : ((1 : Int) == (e : Int)) = false := by simp; omega
  clear h hcell hE hl hlen
  go_enter Tryz.func27, Tryz.ntmps27
  go_upto_block 0 with fail
  go_cut [7] (fun s wx => s = .int .i64 0 ∧ w = wx)
  case first =>
    go_wp2_with fail
    refine wp_loop_rounds 1 ?_
    rw [rounds_succ]
    go_wp2_with fail
    go_meet
    exact ⟨rfl, rfl⟩
  obtain ⟨rfl, rfl⟩ := hcut
  go_upto_if 46 with fail
  go_cut [7, 8] (fun s s8 wx => s = .int .i64 1 ∧ s8 = .int .i64 0 ∧ w = wx)
  case first =>
    cases hT : (bits .and .i64 ext 1024 != 0)
    all_goals
      go_wp2_with fail
      go_meet
      exact ⟨rfl, rfl, rfl⟩
  obtain ⟨rfl, rfl, rfl⟩ := hcut
  go_upto_block 2 with fail
  go_cut [7] (fun s wx => s = .int .i64 (e : Int) ∧ w = wx)
  case first =>
    go_wp2_with fail
    go_loop [7] (fun t => ∃ k : Nat, 1 ≤ k ∧ k ≤ e ∧ t = .int .i64 k) (fun t => e - (intOf t).toNat)
    case atStart => exact ⟨1, Nat.le_refl _, by omega, rfl⟩
    case round =>
      obtain ⟨k, hk1, hk2, rfl⟩ := hrel
      by_cases hlt : k < e
      · have ck := HC.out k (by omega)
        obtain ⟨t1, t2, t3, t4, t5, t6⟩ := low_not (HE.out.id k (by omega) hlt)
        go_wp2_with fail
        go_round
        case rel => exact ⟨k + 1, by omega, by omega, by go_num⟩
        case measure => simp [intOf]; omega
      · obtain rfl : e = k := by omega
        go_wp2_with fail
        go_meet
        exact ⟨rfl, rfl⟩
  obtain ⟨rfl, rfl⟩ := hcut
  go_wp2_with fail
  all_goals go_ret
  all_goals exact ⟨rfl, rfl⟩

set_option maxHeartbeats 4000000 in
set_option maxRecDepth 100000 in
theorem isRef_noClose (ext : Int) (B : Nat) (p : Option Addr) (n c e : Nat) (l : List UInt8) (w : World) (h : Bs w p n l) (hE : NoClose l e) (hx : w.cell? ⟨B, 259, none⟩ = some (.int .i64 ext)) (hn : n ≤ 1000000) :
    Calls Tryz.prog 27 #[.pointer (some ⟨B, 0, none⟩), .slice p n c, .int .i64 4] w fun e w' => e = .returned (.int .i64 0) ∧ w = w' := by
  have hl := h.len
  have hlen := hE.len
  rw [hl] at hlen
  have hpos := hE.pos
  have hz : e < n := by omega
  have h4 : 4 ≤ n := by omega
  obtain ⟨b, o, rfl, _, hcell⟩ := h.cells (by omega)
  have HC := Lib.hid hcell
  have HE := Lib.hid hE
  have c0 := hcell 0 (by omega)
  rw [hE.open'] at c0
  simp only [Nat.add_zero] at c0
  have c1 := hcell 1 (by omega)
  have q1 : (bat l 1 == 94) = false := (low_not hE.low).2.2.1
  have ce := hcell e hz
  rw [hE.nl] at ce
  clear h hcell hE hl hlen
  go_enter Tryz.func27, Tryz.ntmps27
  go_upto_block 0 with fail
  go_cut [7] (fun s wx => s = .int .i64 0 ∧ w = wx)
  case first =>
    go_wp2_with fail
    refine wp_loop_rounds 1 ?_
    rw [rounds_succ]
    go_wp2_with fail
    go_meet
    exact ⟨rfl, rfl⟩
  obtain ⟨rfl, rfl⟩ := hcut
  go_upto_if 46 with fail
  go_cut [7, 8] (fun s s8 wx => s = .int .i64 1 ∧ s8 = .int .i64 0 ∧ w = wx)
  case first =>
    cases hT : (bits .and .i64 ext 1024 != 0)
    all_goals
      go_wp2_with fail
      go_meet
      exact ⟨rfl, rfl, rfl⟩
  obtain ⟨rfl, rfl, rfl⟩ := hcut
  go_upto_block 2 with fail
  go_cut [7] (fun s wx => s = .int .i64 (e : Int) ∧ w = wx)
  case first =>
    go_wp2_with fail
    go_loop [7] (fun t => ∃ k : Nat, 1 ≤ k ∧ k ≤ e ∧ t = .int .i64 k) (fun t => e - (intOf t).toNat)
    case atStart => exact ⟨1, Nat.le_refl _, by omega, rfl⟩
    case round =>
      obtain ⟨k, hk1, hk2, rfl⟩ := hrel
      by_cases hlt : k < e
      · have ck := HC.out k (by omega)
        obtain ⟨t4, t5, t6⟩ := mid_not (HE.out.mid k (by omega) hlt)
        go_wp2_with fail
        go_round
        case rel => exact ⟨k + 1, by omega, by omega, by go_num⟩
        case measure => simp [intOf]; omega
      · obtain rfl : e = k := by omega
        go_wp2_with fail
        go_meet
        exact ⟨rfl, rfl⟩
  obtain ⟨rfl, rfl⟩ := hcut
  go_wp2_with fail
  all_goals go_ret
  all_goals exact ⟨rfl, rfl⟩

end Go.Proofs.YtlndmebmcjngfaaGreatDoor
