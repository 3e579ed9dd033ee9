/- Smart punctuation: the classes of bytes: isspace, ispunct, wordBoundary, tolower walked. No condition. -/
import Derived.Test.YtnkjnlmghnomiaaDoorConv
import Derived.Test.YtnkjnlmghnomiaaDoorChars
import Derived.Deep.DeepCutAuto
import Derived.Deep.CutBlock
namespace Go.Proofs.YtnkjnlmghnomiaaDoor
open Go.ChangeShapes Go.WideShapes Go.ChangeAt Go.RowKit

def spcI (n : Int) : Bool := (n == 32 || n == 9) || (n == 10 || n == 13 || n == 12 || n == 11)
theorem isspace_any (n : Int) (w : World) :
    Calls Tryd.prog 60 #[.int .u8 n] w fun e w' => e = .returned (.bool (spcI n)) ∧ w = w' := by
  go_enter Tryd.func60, Tryd.ntmps60
  go_wp2
  all_goals go_ret
  all_goals refine ⟨ret_bool ?_, rfl⟩
  all_goals unfold spcI
  all_goals simp_all

def punctL : List UInt8 := [33, 34, 35, 36, 37, 38, 39, 40, 41, 42, 43, 44, 45, 46, 47, 58, 59, 60, 61, 62, 63, 64, 91, 92, 93, 94, 95, 96, 123, 124, 125, 126]
def punctI (n : Int) : Bool := (List.range 32).any fun k => n == bat punctL k
theorem punct_yes {n : Int} {k : Nat} (hk : k < 32) (h : (n == bat punctL k) = true) : punctI n = true :=
  List.any_eq_true.2 ⟨k, List.mem_range.2 hk, h⟩
theorem punct_no {n : Int} (h : ∀ k, k < 32 → (n == bat punctL k) = false) : punctI n = false := by
  rw [Bool.eq_false_iff]
  intro hp
  obtain ⟨k, hk, h1⟩ := List.any_eq_true.1 hp
  rw [h k (List.mem_range.1 hk)] at h1
  cases h1
set_option maxHeartbeats 1000000 in
set_option maxRecDepth 100000 in
theorem ispunct_any (n : Int) (w : World) :
    Calls Tryd.prog 61 #[.int .u8 n] w fun e w' => e = .returned (.bool (punctI n)) ∧ Below w.heap.size w w' := by
  have hcv := conv_first w
  have HNew := Lib.hid (fun (C : Array Value) (h : C.toList = vals punctL) => Bs.new w punctL C 5 (C.size, C.size + 1) 32 rfl h)
  have HBl := Lib.hid (fun (C : Array Value) => ((Below.refl w.heap.size w).alloc (Nat.le_refl _) (.cells C 5 (C.size, C.size + 1))))
  go_enter Tryd.func61, Tryd.ntmps61
  go_upto_region 1 with fail
  go_cut [6, 7, 8] (fun p m t wx => p = .slice (some ⟨w.heap.size, 0, none⟩) 32 32 ∧ m = .int .i64 32 ∧ t = .int .i64 0 ∧ Bs wx (some ⟨w.heap.size, 0, none⟩) 32 punctL ∧ Below w.heap.size w wx)
  case first =>
    go_wp2_with fail
    go_meet
    exact ⟨rfl, rfl, rfl, HNew.out _ rfl, HBl.out _⟩
  obtain ⟨rfl, rfl, rfl, hbs, hbel⟩ := hcut
  have HBs := Lib.hid hbs
  have HBe := Lib.hid hbel
  clear hbs hbel hcv
  go_wp2_with fail
  go_loop [8] (fun t => ∃ k : Nat, k ≤ 32 ∧ t = .int .i64 k ∧ ∀ j, j < k → (n == bat punctL j) = false) (fun t => 32 - (intOf t).toNat)
  case atStart => exact ⟨0, Nat.zero_le _, rfl, fun j h => absurd h (Nat.not_lt_zero j)⟩
  case round =>
    obtain ⟨k, hk, rfl, hno⟩ := hrel
    have HNo := Lib.hid hno
    clear hno
    by_cases hlt : k < 32
    · obtain ⟨b, o, e, _, hc⟩ := HBs.out.cells (by decide)
      cases e
      have ck := hc k hlt
      rw [Nat.zero_add] at ck
      clear hc
      cases hq : (n == bat punctL k) with
      | true =>
        have HY := Lib.hid (punct_yes hlt hq)
        go_wp2_with fail
        go_ret
        exact ⟨ret_bool HY.out.symm, HBe.out⟩
      | false =>
        have HQ := Lib.hid hq
        go_wp2_with fail
        go_round
        case rel =>
          refine ⟨k + 1, by omega, by go_num, fun j hj => ?_⟩
          by_cases e : j = k
          · rw [e]; exact HQ.out
          · exact HNo.out j (by omega)
        case measure => simp [intOf]; omega
    · obtain rfl : k = 32 := by omega
      have HN := Lib.hid (punct_no HNo.out)
      go_wp2_with fail
      go_ret
      exact ⟨ret_bool HN.out.symm, HBe.out⟩

def wbI (n : Int) : Bool := (n == 0 || spcI n) || punctI n
theorem wb_any (n : Int) (w : World) : Calls Tryd.prog 53 #[.int .u8 n] w fun e w' => e = .returned (.bool (wbI n)) ∧ Below w.heap.size w w' := by
  have HS := Lib.hid (isspace_any n w)
  have HP := Lib.hid (ispunct_any n w)
  cases h0 : (n == 0) with
  | true =>
    have HE := Lib.hid (show wbI n = true by unfold wbI; rw [h0]; rfl)
    go_enter Tryd.func53, Tryd.ntmps53
    go_wp2_with fail
    go_ret
    exact ⟨ret_bool HE.out.symm, Below.refl _ _⟩
  | false =>
    cases h1 : spcI n with
    | true =>
      rw [h1] at HS
      have HE := Lib.hid (show wbI n = true by unfold wbI; rw [h0, h1]; rfl)
      go_enter Tryd.func53, Tryd.ntmps53
      go_wp2_with (go_at_call 60; refine HS.out.mono ?_; rintro e w2 ⟨rfl, rfl⟩)
      go_ret
      exact ⟨ret_bool HE.out.symm, Below.refl _ _⟩
    | false =>
      rw [h1] at HS
      have HE := Lib.hid (show wbI n = punctI n by unfold wbI; rw [h0, h1]; rfl)
      go_enter Tryd.func53, Tryd.ntmps53
      go_wp2_with (first | (go_at_call 60; refine HS.out.mono ?_; rintro e w2 ⟨rfl, rfl⟩) | (go_at_call 61; refine HP.out.mono ?_; rintro e w2 ⟨rfl, hb⟩))
      go_ret
      exact ⟨ret_bool HE.out.symm, hb⟩
def lowerN (n : Int) : Int := if 65 ≤ n ∧ n ≤ 90 then n + 32 else n
theorem tolowerN_any (n : Int) (w : World) (h0 : 0 ≤ n) (h1 : n < 256) : Calls Tryd.prog 51 #[.int .u8 n] w fun e w' => e = .returned (.int .u8 (lowerN n)) ∧ w = w' := by
  by_cases ha : 65 ≤ n
  · by_cases hb : n ≤ 90
    · have HE := Lib.hid (show lowerN n = n - 65 + 97 by unfold lowerN; rw [if_pos ⟨ha, hb⟩]; omega)
      go_enter Tryd.func51, Tryd.ntmps51
      go_wp2_with fail
      go_ret
      exact ⟨ret_int HE.out.symm, rfl⟩
    · have HE := Lib.hid (show lowerN n = n by unfold lowerN; rw [if_neg (fun h => hb h.2)])
      go_enter Tryd.func51, Tryd.ntmps51
      go_wp2_with fail
      go_ret
      exact ⟨ret_int HE.out.symm, rfl⟩
  · have HE := Lib.hid (show lowerN n = n by unfold lowerN; rw [if_neg (fun h => ha h.1)])
    go_enter Tryd.func51, Tryd.ntmps51
    go_wp2_with fail
    go_ret
    exact ⟨ret_int HE.out.symm, rfl⟩

end Go.Proofs.YtnkjnlmghnomiaaDoor
