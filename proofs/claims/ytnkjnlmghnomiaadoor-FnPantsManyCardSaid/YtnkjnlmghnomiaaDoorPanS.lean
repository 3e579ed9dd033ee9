/- Smart punctuation: numbers and what hyphens become, walked. Condition: numbers are bounded. -/
import Derived.Test.YtnkjnlmghnomiaaDoorPanR
import Derived.Test.YtnkjnlmghnomiaaDoorConv
import Derived.IntWalk
namespace Go.Proofs.YtnkjnlmghnomiaaDoor
open Go.ChangeShapes Go.WideShapes Go.ChangeAt Go.RowKit

/-- one byte that was made, as a string -/
theorem conv_one (w : World) (x : Nat) (hx : x < 256) (h : World) (hh : h = w.alloc (.cells #[.int .u8 (x : Int)] 5)) : (convert 27 9 (.slice (some ⟨w.heap.size, 0, none⟩) 1 1)).run Tryd.prog h = .ok (.string (str [UInt8.ofNat x])) h := by
  have e : ((UInt8.ofNat x).toNat : Int) = x := by rw [UInt8.toNat_ofNat']; omega
  subst hh
  exact (Bs.new w [UInt8.ofNat x] _ _ _ 1 rfl (by simp [vals]; omega)).convert 1

theorem conv_later {w wd w2 : World} {x : Nat} (hx : x < 256) (hw : wd = (w.alloc (.cells #[.int .u8 (x : Int)] 5)).drew) (hb : Below wd.heap.size wd w2) : (convert 27 9 (.slice (some ⟨w.heap.size, 0, none⟩) 1 1)).run Tryd.prog w2 = .ok (.string (str [UInt8.ofNat x])) w2 := by
  have e : ((UInt8.ofNat x).toNat : Int) = x := by rw [UInt8.toNat_ofNat']; omega
  have h1 : Bs wd (some ⟨w.heap.size, 0, none⟩) 1 [UInt8.ofNat x] := by
    rw [hw]
    exact (Bs.new w [UInt8.ofNat x] #[.int .u8 (x : Int)] _ _ 1 rfl (by simp [vals]; omega)).below (Below.drew (Below.refl _ _)) (Nat.le_refl _)
  exact (h1.below hb (Nat.le_refl _)).convert 1

theorem decL_le (n : Nat) : (decL n).length ≤ n + 1 := by
  induction n using Nat.strongRecOn with
  | _ n ih =>
    rw [decL]
    split
    · simp
    · have := ih (n / 10) (by omega)
      rw [List.length_append]
      simp
      omega

set_option maxHeartbeats 2000000 in
set_option maxRecDepth 100000 in
theorem decimal_any : ∀ (n : Nat) (w : World), n ≤ 1000000 →
    Calls Tryd.prog 31 #[.int .i64 n] w fun e w' => e = .returned (.string (str (decL n))) ∧ Below w.heap.size w w' := by
  intro n
  induction n using Nat.strongRecOn with
  | _ n ih =>
    intro w hn
    have HI := Lib.hid ih
    clear ih
    by_cases h10 : n < 10
    · have HD := Lib.hid (decL_small h10)
      have hc : (convert 27 9 (.slice (some ⟨w.heap.size, 0, none⟩) 1 1)).run Tryd.prog (w.alloc (.cells #[.int .u8 (48 + (n : Int))] 5)) = .ok (.string (str [UInt8.ofNat (48 + n)])) (w.alloc (.cells #[.int .u8 (48 + (n : Int))] 5)) := conv_one w (48 + n) (by omega) _ (by simp)
      go_enter Tryd.func31, Tryd.ntmps31
      go_wp2_with fail
      go_ret
      exact ⟨by rw [HD.out]; simp, (Below.refl _ _).alloc (Nat.le_refl _) _⟩
    · have HD := Lib.hid (show decL n = decL (n / 10) ++ [UInt8.ofNat (48 + n % 10)] by rw [decL, if_neg h10])
      obtain ⟨q, hq⟩ : ∃ q : Nat, q = n / 10 := ⟨_, rfl⟩
      obtain ⟨d, hd⟩ : ∃ d : Nat, d = n % 10 := ⟨_, rfl⟩
      obtain ⟨x, hx⟩ : ∃ x : Nat, x = 48 + n % 10 := ⟨_, rfl⟩
      rw [← hq, ← hx] at HD
      have hx2 : x < 256 := by omega
      have HQ := Lib.hid (fun w => HI.out q (by omega) w (by omega))
      have e1 : IntKind.i64.wrap ((n : Int) / 10) = (q : Int) := by rw [IntWalk.i64_in _ ⟨by omega, by omega⟩]; omega
      have e0 : IntKind.i64.wrap ((n : Int).tdiv 10) = (q : Int) := by rw [Int.tdiv_eq_ediv_of_nonneg (by omega)]; exact e1
      have t1 : (n : Int).tmod 10 = (d : Int) := by rw [Int.tmod_eq_emod_of_nonneg (by omega)]; omega
      have t2 : (n : Int) % 10 = (d : Int) := by omega
      have e2 : IntKind.i64.wrap (48 + (d : Int)) = (x : Int) := by rw [IntWalk.i64_in _ ⟨by omega, by omega⟩]; omega
      have e3 : IntKind.u8.wrap (x : Int) = (x : Int) := IntWalk.u8_in _ ⟨by omega, by omega⟩
      have f1 : ∀ w0 : World, (convert 27 9 (.slice (some ⟨w0.heap.size, 0, none⟩) 1 1)).run Tryd.prog (w0.alloc (.cells #[.int .u8 (x : Int)] 5)) = .ok (.string (str [UInt8.ofNat x])) (w0.alloc (.cells #[.int .u8 (x : Int)] 5)) :=
        fun w0 => conv_one w0 x hx2 _ rfl
      have z1 : (str (decL q)).size ≤ 1000001 := by rw [str_size]; have := decL_le q; omega
      have z2 : (str [UInt8.ofNat x]).size = 1 := rfl
      have f2 : ∀ w0 : World, (convert 27 9 (.slice (some ⟨w0.heap.size, 0, none⟩) 1 1)).run Tryd.prog (w0.alloc (.cells #[.int .u8 (x : Int)] 5)).drew = .ok (.string (str [UInt8.ofNat x])) (w0.alloc (.cells #[.int .u8 (x : Int)] 5)).drew :=
        fun w0 => conv_later hx2 rfl (Below.refl _ _)
      have HX := Lib.hid hx2
      clear hq hx hx2 hd HI
      go_enter Tryd.func31, Tryd.ntmps31
      go_upto_region 3 with fail
      go_region_with (
        go_at_call 31
        refine (HQ.out _).mono ?_
        rintro e w2 ⟨rfl, hb⟩
        first
          | have hcv := conv_later (w := w) HX.out rfl hb
          | skip)
      all_goals
        have hb0 : Below w.heap.size w w2 := by
          first
            | exact (Below.drew (Below.refl _ _)).trans (hb.mono (Nat.le_refl _))
            | exact (Below.drew ((Below.refl _ _).alloc (Nat.le_refl _) _)).trans (hb.mono (by simp))
        go_wp2_with fail
        go_ret
        refine ⟨(show Ending.returned (.string (str (decL q) ++ str [UInt8.ofNat x])) = _ by rw [HD.out, str_app]), ?_⟩
        first
          | exact hb0
          | exact hb0.alloc hb0.size _
          | exact Below.drew hb0
          | exact Below.drew (hb0.alloc hb0.size _)

end Go.Proofs.YtnkjnlmghnomiaaDoor
