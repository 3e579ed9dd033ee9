/- Definitions: scanLinkRef walked, a title behind the address. Condition: lengths are bounded. -/
import Derived.Test.YtlndmebmcjngfaaGreatDoorDefB
import Derived.Deep.CutBlock
import Derived.Deep.DeepCutAuto
namespace Go.Proofs.YtlndmebmcjngfaaGreatDoor
open Go.ChangeShapes Go.WideShapes Go.ChangeAt Go.RowKit

set_option maxHeartbeats 8000000 in
set_option maxRecDepth 100000 in
theorem scanB_any (v : Value) (p : Option Addr) (n c i f g : Nat) (l : List UInt8) (w : World) (h : Bs w p n l) (hi : bat l i = 47) (hif : i < f) (hp : ∀ j, i ≤ j → j < f → inkI (bat l j) = true) (hf : bat l f = 32) (hB : TailB l (f + 1) g) (hn : n ≤ 1000000) :
    Calls Tryz.prog 46 #[v, .slice p n c, .int .i64 (i : Int)] w (ScanSaid i f n w) := by
  have hl := h.len
  have hlen := hB.len
  rw [hl] at hlen
  have hkg := hB.kg
  have h1 : g + 2 < n := by omega
  have hf0 : 0 < f := by omega
  have h2 : n ≤ g + 3 := by omega
  obtain ⟨b, o, rfl, _, hcell⟩ := h.cells (by omega)
  have HC := Lib.hid hcell
  have HP := Lib.hid hp
  have HQ := Lib.hid (quo_cases hB.q)
  have HE := Lib.hid hB.r
  have HE2 := Lib.hid (end_cases hB.r)
  have HT := Lib.hid hB.ti
  have ci := hcell i (by omega)
  rw [hi] at ci
  have cf := hcell f (by omega)
  rw [hf] at cf
  have ck0 := hcell (f + 1) (by omega)
  have cg0 := hcell g (by omega)
  have cg1 := hcell (g + 1) (by omega)
  rw [hB.nl] at cg1
  have cg2 := hcell (g + 2) (by omega)
  rw [hB.nl2] at cg2
  clear h hl hcell hp hB hi hlen hf
  go_enter Tryz.func46, Tryz.ntmps46
  go_upto_block 0 with fail
  go_cut [2] (fun s2 wx => s2 = .int .i64 ((f : Nat) : Int) ∧ w = wx)
  case first =>
    as_aux_lemma =>
      go_wp2_with fail
      go_loop [2] (fun t => ∃ k : Nat, i ≤ k ∧ k ≤ f ∧ t = .int .i64 k) (fun t => f - (intOf t).toNat)
      case atStart => exact ⟨i, Nat.le_refl _, by omega, by first | rfl | go_num⟩
      case round =>
        obtain ⟨k, hk1, hk2, rfl⟩ := hrel
        by_cases hlt : k < f
        · have ck := HC.out k (by omega)
          obtain ⟨t1, t2, t3, t4, t5, t6, t7, t8⟩ := ink_parts (HP.out k hk1 hlt)
          go_wp2_with fail
          go_round
          case rel => exact ⟨k + 1, by omega, by omega, by go_num⟩
          case measure => simp [intOf]; omega
        · obtain rfl : f = k := by omega
          go_wp2_with fail
          go_meet
          exact ⟨by first | rfl | go_num, rfl⟩
  obtain ⟨rfl, rfl⟩ := hcut
  go_upto_block 2 with fail
  go_cut [2] (fun s2 wx => s2 = .int .i64 ((f + 1 : Nat) : Int) ∧ w = wx)
  case first =>
    as_aux_lemma =>
      have q1 : (bat l (f + 1) == 32) = false ∧ (bat l (f + 1) == 9) = false := by rcases HQ.out with e | e | e <;> rw [e] <;> decide
      obtain ⟨q2, q3⟩ := q1
      go_wp2_with fail
      refine wp_loop_rounds 2 ?_
      rw [rounds_succ]
      go_wp2_with fail
      rw [rounds_succ]
      go_wp2_with fail
      go_meet
      exact ⟨by go_num, rfl⟩
  obtain ⟨rfl, rfl⟩ := hcut
  go_upto_region 12 with fail
  go_cut [129] (fun s wx => s = .bool false ∧ w = wx)
  case first =>
    as_aux_lemma =>
      rcases HQ.out with e | e | e
      all_goals
        rw [e] at ck0
        go_wp2_with fail
        go_meet
        exact ⟨rfl, rfl⟩
  obtain ⟨rfl, rfl⟩ := hcut
  have q1 : (bat l (f + 1) == 13) = false ∧ (bat l (f + 1) == 10) = false := by rcases HQ.out with e | e | e <;> rw [e] <;> decide
  obtain ⟨q2, q3⟩ := q1
  go_upto_region 21 with fail
  go_cut [220] (fun s wx => s = .bool true ∧ w = wx)
  case first =>
    as_aux_lemma =>
      rcases HQ.out with e | e | e
      all_goals
        rw [e] at ck0
        go_wp2_with fail
        go_meet
        exact ⟨rfl, rfl⟩
  obtain ⟨rfl, rfl⟩ := hcut
  go_upto_block 6 with fail
  go_cut [2] (fun s2 wx => s2 = .int .i64 ((g + 1 : Nat) : Int) ∧ w = wx)
  case first =>
    as_aux_lemma =>
      go_wp2_with fail
      go_loop [2] (fun t => ∃ k : Nat, f + 1 + 1 ≤ k ∧ k ≤ g + 1 ∧ t = .int .i64 k) (fun t => g + 1 - (intOf t).toNat)
      case atStart => exact ⟨f + 1 + 1, Nat.le_refl _, by omega, by first | rfl | go_num⟩
      case round =>
        obtain ⟨k, hk1, hk2, rfl⟩ := hrel
        by_cases hlt : k < g + 1
        · have ck := HC.out k (by omega)
          obtain ⟨t1, t2, t3, t4⟩ : (bat l k == 10) = false ∧ (bat l k != 10) = true ∧ (bat l k == 13) = false ∧ (bat l k != 13) = true := by
            by_cases e : k = g
            · rw [e]; exact end_nl HE.out
            · exact word_nl (HT.out k (by omega) (by omega))
          go_wp2_with fail
          go_round
          case rel => exact ⟨k + 1, by omega, by omega, by go_num⟩
          case measure => simp [intOf]; omega
        · obtain rfl : g + 1 = k := by omega
          go_wp2_with fail
          go_meet
          exact ⟨by first | rfl | go_num, rfl⟩
  obtain ⟨rfl, rfl⟩ := hcut
  go_upto_block 8 with fail
  go_cut [2] (fun s2 wx => s2 = .int .i64 (g : Int) ∧ w = wx)
  case first =>
    as_aux_lemma =>
      obtain ⟨t1, t2⟩ := end_blank HE.out
      go_wp2_with fail
      refine wp_loop_rounds 1 ?_
      rw [rounds_succ]
      go_wp2_with fail
      go_meet
      exact ⟨by go_num, rfl⟩
  obtain ⟨rfl, rfl⟩ := hcut
  go_upto_region 32 with fail
  go_cut [311] (fun s wx => s = .bool true ∧ w = wx)
  case first =>
    as_aux_lemma =>
      rcases HE2.out with e | e | e
      all_goals
        rw [e] at cg0
        go_wp2_with fail
        go_meet
        exact ⟨rfl, rfl⟩
  obtain ⟨rfl, rfl⟩ := hcut
  go_wp2_with fail
  exact bodyPost_ret (v := .tuple #[.int .i64 (i : Int), .int .i64 (f : Int), .int .i64 ((f + 1 + 1 : Nat) : Int), .int .i64 (g : Int), .int .i64 ((g + 1 : Nat) : Int)]) (by simp [results, Tryz.results46, go_sem]) rfl ⟨f + 1 + 1, g, g + 1, rfl, by omega, by omega, by omega, by omega, by omega, rfl⟩

end Go.Proofs.YtlndmebmcjngfaaGreatDoor
