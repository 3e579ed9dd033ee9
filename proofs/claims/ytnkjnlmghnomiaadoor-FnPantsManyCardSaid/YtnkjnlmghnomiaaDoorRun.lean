/- Runs of bytes of a class: spec.inRun, spec.inAt walked. Condition: lengths are bounded. -/
import Derived.Test.YtnkjnlmghnomiaaDoorConv
import Derived.Test.YtnkjnlmghnomiaaDoorChars
namespace Go.Proofs.YtnkjnlmghnomiaaDoor
open Go.ChangeShapes Go.WideShapes Go.ChangeAt Go.RowKit

/-- how many bytes of a class a text begins with -/
def span (P : Int → Bool) : List UInt8 → Nat
  | [] => 0
  | c :: r => if P (c.toNat : Int) then span P r + 1 else 0
/-- the end of the bytes of a class from a place on -/
def run (P : Int → Bool) (l : List UInt8) (i : Nat) : Nat := i + span P (l.drop i)
/-- does a byte stand at a place -/
def atB (l : List UInt8) (i : Nat) (c : Int) : Bool := decide (i < l.length) && bat l i == c

theorem drop_cons (l : List UInt8) (k : Nat) (h : k < l.length) : l.drop k = l.getD k 0 :: l.drop (k + 1) := by
  rw [List.drop_eq_getElem_cons h]
  simp [h]
theorem run_step {P : Int → Bool} {l : List UInt8} {i : Nat} (h : i < l.length) (hp : P (bat l i) = true) : run P l i = run P l (i + 1) := by
  rw [run, drop_cons l i h, span]
  have : P (((l.getD i 0).toNat : Nat) : Int) = true := hp
  rw [if_pos this, run]
  omega
theorem run_stop {P : Int → Bool} {l : List UInt8} {i : Nat} (hp : P (bat l i) = false) : run P l i = i := by
  rcases Nat.lt_or_ge i l.length with h | h
  · rw [run, drop_cons l i h, span]
    have : P (((l.getD i 0).toNat : Nat) : Int) = false := hp
    rw [if_neg (by rw [this]; simp)]
    omega
  · rw [run, List.drop_of_length_le h]
    rfl
theorem run_end {P : Int → Bool} {l : List UInt8} {i : Nat} (h : l.length ≤ i) : run P l i = i := by
  rw [run, List.drop_of_length_le h]
  rfl
theorem le_run (P : Int → Bool) (l : List UInt8) (i : Nat) : i ≤ run P l i := by unfold run; omega
theorem span_le (P : Int → Bool) (l : List UInt8) : span P l ≤ l.length := by
  induction l with
  | nil => simp [span]
  | cons c r ih => rw [span]; split <;> simp <;> omega
theorem run_le (P : Int → Bool) (l : List UInt8) (i : Nat) (h : i ≤ l.length) : run P l i ≤ l.length := by
  have := span_le P (l.drop i)
  rw [List.length_drop] at this
  unfold run
  omega

theorem span_mid (P : Int → Bool) (l : List UInt8) : ∀ k, k < span P l → k < l.length ∧ P (bat l k) = true := by
  induction l with
  | nil => intro k hk; simp [span] at hk
  | cons c r ih =>
    intro k hk
    rw [span] at hk
    by_cases hp : P (c.toNat : Int) = true
    · rw [if_pos hp] at hk
      cases k with
      | zero => exact ⟨by simp, by simpa [bat] using hp⟩
      | succ k =>
        have := ih k (by omega)
        exact ⟨by simp; omega, by simpa [bat] using this.2⟩
    · rw [if_neg hp] at hk
      omega
theorem run_mid {P : Int → Bool} {l : List UInt8} {i k : Nat} (h1 : i ≤ k) (h2 : k < run P l i) : k < l.length ∧ P (bat l k) = true := by
  unfold run at h2
  have h := span_mid P (l.drop i) (k - i) (by omega)
  rw [List.length_drop] at h
  refine ⟨by omega, ?_⟩
  have e : bat (l.drop i) (k - i) = bat l k := by
    unfold bat
    simp only [List.getD, List.getElem?_drop]
    rw [show i + (k - i) = k by omega]
  rw [← e]
  exact h.2



end Go.Proofs.YtnkjnlmghnomiaaDoor
