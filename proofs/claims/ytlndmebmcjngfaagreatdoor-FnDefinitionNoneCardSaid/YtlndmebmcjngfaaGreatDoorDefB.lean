/- Definitions: scanLinkRef walked at the address of a definition that is one. Condition: lengths are bounded. -/
import Derived.Test.YtlndmebmcjngfaaGreatDoorDefA
import Derived.Deep.CutBlock
import Derived.Deep.DeepCutAuto
namespace Go.Proofs.YtlndmebmcjngfaaGreatDoor
open Go.ChangeShapes Go.WideShapes Go.ChangeAt Go.RowKit

theorem bneq_of {a b : Int} {v : Bool} (h : (a == b) = v) : (a != b) = !v := by simp only [bne, h]
/-- not a blank, not a tab, no end of a line -/
def inkI (n : Int) : Bool := !(n == 32) && !(n == 9) && !(n == 10) && !(n == 13)
theorem ink_parts {n : Int} (h : inkI n = true) : (n == 32) = false ∧ (n != 32) = true ∧ (n == 9) = false ∧ (n != 9) = true ∧ (n == 10) = false ∧ (n != 10) = true ∧ (n == 13) = false ∧ (n != 13) = true := by
  unfold inkI at h
  simp only [Bool.and_eq_true, Bool.not_eq_true'] at h
  obtain ⟨⟨⟨h1, h2⟩, h3⟩, h4⟩ := h
  exact ⟨h1, bneq_of h1, h2, bneq_of h2, h3, bneq_of h3, h4, bneq_of h4⟩
theorem low_range {n : Int} (h : lowI n = true) : 97 ≤ n ∧ n ≤ 122 := by
  unfold lowI at h
  simpa using h
theorem low_ink {n : Int} (h : lowI n = true) : inkI n = true := by
  have := low_range h
  unfold inkI
  simp
  omega
theorem word_nl {n : Int} (h : wordI n = true) : (n == 10) = false ∧ (n != 10) = true ∧ (n == 13) = false ∧ (n != 13) = true := by
  have h2 : n ≠ 10 ∧ n ≠ 13 := by
    unfold wordI at h
    rw [Bool.or_eq_true] at h
    rcases h with h | h
    · have := low_range h; omega
    · have : n = 32 := by simpa using h
      omega
  have h3 : (n == 10) = false := by simpa using h2.1
  have h4 : (n == 13) = false := by simpa using h2.2
  exact ⟨h3, bneq_of h3, h4, bneq_of h4⟩

/-- the end of a scan: a definition was found -/
def ScanSaid (i f n : Nat) (w : World) (e : Ending) (w' : World) : Prop :=
  ∃ a b le : Nat, e = .returned (.tuple #[.int .i64 (i : Int), .int .i64 (f : Int), .int .i64 (a : Int), .int .i64 (b : Int), .int .i64 (le : Int)]) ∧ a ≤ b ∧ a < n ∧ b ≤ n ∧ 0 < le ∧ le ≤ n ∧ w = w'

theorem end_cases {n : Int} (h : endI n = true) : n = 34 ∨ n = 39 ∨ n = 41 := by
  unfold endI at h
  simpa [or_assoc] using h
theorem quo_cases {n : Int} (h : quoI n = true) : n = 34 ∨ n = 39 ∨ n = 40 := by
  unfold quoI at h
  simpa [or_assoc] using h
theorem end_nl {n : Int} (h : endI n = true) : (n == 10) = false ∧ (n != 10) = true ∧ (n == 13) = false ∧ (n != 13) = true := by
  rcases end_cases h with rfl | rfl | rfl <;> decide
theorem end_blank {n : Int} (h : endI n = true) : (n == 32) = false ∧ (n == 9) = false := by
  rcases end_cases h with rfl | rfl | rfl <;> decide

set_option maxHeartbeats 4000000 in
set_option maxRecDepth 100000 in
theorem scanA_any (v : Value) (p : Option Addr) (n c i f : Nat) (l : List UInt8) (w : World) (h : Bs w p n l) (hi : bat l i = 47) (hif : i < f) (hp : ∀ j, i ≤ j → j < f → inkI (bat l j) = true) (hA : TailA l f) (hn : n ≤ 1000000) :
    Calls Tryz.prog 46 #[v, .slice p n c, .int .i64 (i : Int)] w (ScanSaid i f n w) := by
  have hl := h.len
  have hlen := hA.len
  rw [hl] at hlen
  have h1 : f + 1 < n := by omega
  have h2 : n ≤ f + 2 := by omega
  obtain ⟨b, o, rfl, _, hcell⟩ := h.cells (by omega)
  have HC := Lib.hid hcell
  have HP := Lib.hid hp
  have ci := hcell i (by omega)
  rw [hi] at ci
  have cf := hcell f (by omega)
  rw [hA.nl] at cf
  have cf1 := hcell (f + 1) (by omega)
  rw [hA.nl2] at cf1
  clear h hl hcell hp hA hi hlen
  go_enter Tryz.func46, Tryz.ntmps46
  go_upto_block 0 with fail
  go_cut [2] (fun s2 wx => s2 = .int .i64 ((f : Nat) : Int) ∧ w = wx)
  case first =>
    as_aux_lemma =>
      go_wp2_with fail
      go_loop [2] (fun t => ∃ k : Nat, i ≤ k ∧ k ≤ f ∧ t = .int .i64 k) (fun t => f - (intOf t).toNat)
      case atStart => exact ⟨i, Nat.le_refl _, by omega, by first | rfl | go_num⟩
      case round =>
        obtain ⟨k, hk1, hk2, rfl⟩ := hrel
        by_cases hlt : k < f
        · have ck := HC.out k (by omega)
          obtain ⟨t1, t2, t3, t4, t5, t6, t7, t8⟩ := ink_parts (HP.out k hk1 hlt)
          go_wp2_with fail
          go_round
          case rel => exact ⟨k + 1, by omega, by omega, by go_num⟩
          case measure => simp [intOf]; omega
        · obtain rfl : f = k := by omega
          go_wp2_with fail
          go_meet
          exact ⟨by first | rfl | go_num, rfl⟩
  obtain ⟨rfl, rfl⟩ := hcut
  go_upto_block 2 with fail
  go_cut [2] (fun s2 wx => s2 = .int .i64 ((f : Nat) : Int) ∧ w = wx)
  case first =>
    as_aux_lemma =>
      go_wp2_with fail
      refine wp_loop_rounds 1 ?_
      rw [rounds_succ]
      go_wp2_with fail
      go_meet
      exact ⟨by first | rfl | go_num, rfl⟩
  obtain ⟨rfl, rfl⟩ := hcut
  go_upto_block 4 with fail
  go_cut [2] (fun s2 wx => s2 = .int .i64 ((f + 1 : Nat) : Int) ∧ w = wx)
  case first =>
    as_aux_lemma =>
      go_wp2_with fail
      refine wp_loop_rounds 1 ?_
      rw [rounds_succ]
      go_wp2_with fail
      go_meet
      exact ⟨by first | rfl | go_num, rfl⟩
  obtain ⟨rfl, rfl⟩ := hcut
  go_wp2_with fail
  exact bodyPost_ret (v := .tuple #[.int .i64 (i : Int), .int .i64 (f : Int), .int .i64 0, .int .i64 0, .int .i64 (f : Int)]) (by simp [results, Tryz.results46, go_sem]) rfl ⟨0, 0, f, rfl, Nat.le_refl _, by omega, Nat.zero_le _, by omega, by omega, rfl⟩

end Go.Proofs.YtlndmebmcjngfaaGreatDoor
