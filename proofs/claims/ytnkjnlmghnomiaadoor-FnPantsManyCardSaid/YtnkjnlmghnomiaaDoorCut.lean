/- What stands at a place of a text, and what follows. Plain law, no program in sight. -/
import Derived.Test.YtnkjnlmghnomiaaDoorRun
namespace Go.Proofs.YtnkjnlmghnomiaaDoor
open Go.ChangeShapes Go.WideShapes Go.ChangeAt Go.RowKit

theorem at_cons {l m : List UInt8} {i : Nat} {c : UInt8} (h : l.drop i = c :: m) : i < l.length ∧ bat l i = (c.toNat : Int) ∧ l.drop (i + 1) = m := by
  have hi : i < l.length := by
    rcases Nat.lt_or_ge i l.length with h1 | h1
    · exact h1
    · rw [List.drop_of_length_le h1] at h; cases h
  rw [drop_cons l i hi] at h
  injection h with h1 h2
  exact ⟨hi, by unfold bat; rw [h1], h2⟩
theorem at_app {l m : List UInt8} (P : Int → Bool) : ∀ {a : List UInt8} {i : Nat}, l.drop i = a ++ m → (∀ c ∈ a, P (c.toNat : Int) = true) → (∀ j, i ≤ j → j < i + a.length → P (bat l j) = true) ∧ l.drop (i + a.length) = m
  | [], i, h, _ => ⟨fun j h1 h2 => by simp at h2; omega, by simpa using h⟩
  | c :: a, i, h, hp => by
    obtain ⟨h1, h2, h3⟩ := at_cons h
    obtain ⟨h4, h5⟩ := at_app P h3 (fun x hx => hp x (List.mem_cons_of_mem _ hx))
    refine ⟨fun j hj1 hj2 => ?_, ?_⟩
    · by_cases e : j = i
      · rw [e, h2]; exact hp c (List.mem_cons_self ..)
      · exact h4 j (by omega) (by simp at hj2; omega)
    · rw [List.length_cons, show i + (a.length + 1) = i + 1 + a.length by omega]
      exact h5
theorem at_end {l : List UInt8} {i : Nat} (h : l.drop i = []) : l.length ≤ i := by
  have := congrArg List.length h
  rw [List.length_drop, List.length_nil] at this
  omega
theorem at_len {l m : List UInt8} {i : Nat} (h : l.drop i = m) (hm : 0 < m.length) : l.length = i + m.length := by
  have := congrArg List.length h
  rw [List.length_drop] at this
  omega
theorem bat_drop0 (l : List UInt8) (i j : Nat) : bat (l.drop i) j = bat l (i + j) := by
  unfold bat
  simp only [List.getD, List.getElem?_drop]

end Go.Proofs.YtnkjnlmghnomiaaDoor
