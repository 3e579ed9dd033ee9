/- Forests: (*spec.TreeForest).Step walked, any step. Condition: the forest is one. -/
import Derived.Test.YtccofockeemmkaaRRTreeU
namespace Go.Proofs.YtccofockeemmkaaRR
open Go.ChangeShapes Go.WideShapes Go.ChangeAt Go.RowKit

set_option maxHeartbeats 8000000 in
set_option maxRecDepth 100000 in
theorem fbad0 {w : World} {B fb n : Nat} {up : Nat → Option Nat} {dn : Nat → List Nat} {upv dnv : Value} {rv : Nat → Value} (a b : Int) (h : Forest w B fb n n up dn upv dnv rv) (ha : a < 0 ∨ 24 ≤ a) :
    Calls Try.prog 5 #[.pointer (some ⟨fb, 0, none⟩), .agg #[.int .i64 0, .int .i64 a, .int .i64 b]] w fun e w' => e = .returned (.bool false) ∧ Below B w w' := by
  have HB := Lib.hid h.base
  clear h
  rcases ha with ha | ha <;>
    (go_enter Try.func5, Try.ntmps5
     go_wp2_with fail
     go_ret
     exact ⟨rfl, (Below.refl B w).alloc HB.out _⟩)

set_option maxHeartbeats 8000000 in
set_option maxRecDepth 100000 in
theorem fbad {w : World} {B fb n : Nat} {up : Nat → Option Nat} {dn : Nat → List Nat} {upv dnv : Value} {rv : Nat → Value} (op a b : Int) (h : Forest w B fb n n up dn upv dnv rv) (hn : n ≤ 100000) (hop : op ≠ 0)
    (ha : op < 0 ∨ 3 < op ∨ a < 0 ∨ (n : Int) ≤ a ∨ (op < 3 ∧ b < 0) ∨ (op < 3 ∧ (n : Int) ≤ b)) :
    Calls Try.prog 5 #[.pointer (some ⟨fb, 0, none⟩), .agg #[.int .i64 op, .int .i64 a, .int .i64 b]] w fun e w' => e = .returned (.bool false) ∧ Below B w w' := by
  have HB := Lib.hid h.base
  have c0 := fun ob => (h.alloc ob).cu
  obtain ⟨p, c, rfl, _, _⟩ := own_slice h.upr
  clear h
  by_cases h1 : op < 0
  · clear ha
    go_enter Try.func5, Try.ntmps5
    go_wp2_with fail
    go_ret
    exact ⟨rfl, (Below.refl B w).alloc HB.out _⟩
  by_cases h2 : 3 < op
  · clear ha
    go_enter Try.func5, Try.ntmps5
    go_wp2_with fail
    go_ret
    exact ⟨rfl, (Below.refl B w).alloc HB.out _⟩
  by_cases h3 : a < 0
  · clear ha
    go_enter Try.func5, Try.ntmps5
    go_wp2_with fail
    go_ret
    exact ⟨rfl, (Below.refl B w).alloc HB.out _⟩
  by_cases h4 : (n : Int) ≤ a
  · clear ha
    go_enter Try.func5, Try.ntmps5
    go_wp2_with fail
    go_ret
    exact ⟨rfl, (Below.refl B w).alloc HB.out _⟩
  have h5 : op < 3 := by omega
  by_cases h6 : b < 0
  · clear ha
    go_enter Try.func5, Try.ntmps5
    go_wp2_with fail
    go_ret
    exact ⟨rfl, (Below.refl B w).alloc HB.out _⟩
  have h7 : (n : Int) ≤ b := by omega
  clear ha
  go_enter Try.func5, Try.ntmps5
  go_wp2_with fail
  go_ret
  exact ⟨rfl, (Below.refl B w).alloc HB.out _⟩

theorem fstep_any {w : World} {B fb n : Nat} {up : Nat → Option Nat} {dn : Nat → List Nat} {upv dnv : Value} {rv : Nat → Value} (op a b : Int) (h : Forest w B fb n n up dn upv dnv rv) (hp : Fp n up dn) (hn : n ≤ 100000) :
    Calls Try.prog 5 #[.pointer (some ⟨fb, 0, none⟩), .agg #[.int .i64 op, .int .i64 a, .int .i64 b]] w fun e w' => ∃ r, e = .returned (.bool r) ∧ (r = true → Stepped w w' B fb n up op a b) ∧ Below B w w' := by
  by_cases h0 : op = 0
  · subst h0
    by_cases ha : 0 ≤ a ∧ a < 24
    · exact fstep0 a b h hp ha.1 ha.2 hn
    · refine (fbad0 a b h (by omega)).mono ?_
      rintro e w' ⟨rfl, L⟩
      exact ⟨false, rfl, (fun h => by cases h), L⟩
  · by_cases hb : op < 0 ∨ 3 < op ∨ a < 0 ∨ (n : Int) ≤ a ∨ (op < 3 ∧ b < 0) ∨ (op < 3 ∧ (n : Int) ≤ b)
    · refine (fbad op a b h hn h0 hb).mono ?_
      rintro e w' ⟨rfl, L⟩
      exact ⟨false, rfl, (fun h => by cases h), L⟩
    · obtain ⟨x, rfl⟩ := Int.eq_ofNat_of_zero_le (show 0 ≤ a by omega)
      by_cases h3 : op = 3
      · subst h3
        refine (fstep3 x b h hp (by omega) (by omega)).mono ?_
        rintro e w' ⟨rfl, S, L⟩
        exact ⟨true, rfl, (fun _ => S), L⟩
      · obtain ⟨y, rfl⟩ := Int.eq_ofNat_of_zero_le (show 0 ≤ b by omega)
        by_cases h1 : op = 1
        · subst h1
          exact fstep1 x y h hp (by omega) (by omega) hn
        · have h2 : op = 2 := by omega
          subst h2
          exact fstep2 x y h hp (by omega) (by omega) hn

end Go.Proofs.YtccofockeemmkaaRR
