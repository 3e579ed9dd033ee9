/- Lines: what the prefixes of lines are, as functions of the text. Plain law, no program in sight. -/
import Derived.Test.YthddhejbkdenkaaGreatDoorFenA
namespace Go.Proofs.YthddhejbkdenkaaGreatDoor

def allI (P : Int → Bool) (l : List UInt8) : Bool := l.all fun c => P (c.toNat : Int)
def emptyF (l : List UInt8) : Nat := let L := run (neI 10) l 0; if allI blankI (l.take L) = true then L + 1 else 0
def markI (n : Int) : Bool := n == 42 || n == 43 || n == 45
def bulF (l : List UInt8) : Nat := let n := lead 3 l; if n + 1 < l.length ∧ (markI (bat l n) && blankI (bat l (n + 1))) = true then n + 2 else 0
def quoF (l : List UInt8) : Nat := let n := lead 3 l; if n < l.length ∧ (bat l n == 62) = true then (if n + 1 < l.length ∧ (bat l (n + 1) == 32) = true then n + 2 else n + 1) else 0
def termF (l : List UInt8) : Nat := if 1 < l.length ∧ (bat l 0 == 58 && blankI (bat l 1)) = true then 2 else 0
/-- how many signs a text begins with, at most six -/
def signs (l : List UInt8) : Nat := min 6 (span (eqI 35) l)
def headF (sp : Bool) (l : List UInt8) : Bool := decide (0 < signs l) && (!sp || (decide (signs l < l.length) && bat l (signs l) == 32))

theorem signs_is {k : Nat} {l : List UInt8} (h1 : k ≤ 6) (h2 : k ≤ l.length) (h3 : ∀ i, i < k → bat l i = 35) (h4 : k = 6 ∨ k = l.length ∨ bat l k ≠ 35) : signs l = k := by
  have hs : ∀ (j : Nat) (m : List UInt8), j ≤ m.length → (∀ i, i < j → bat m i = 35) → j ≤ span (eqI 35) m := by
    intro j
    induction j with
    | zero => intro m _ _; exact Nat.zero_le _
    | succ j ih =>
      intro m hm hall
      cases m with
      | nil => simp at hm
      | cons c r =>
        have h0 : ((c.toNat : Nat) : Int) = 35 := hall 0 (by omega)
        rw [span, if_pos (by rw [h0]; rfl)]
        have := ih r (by simp at hm; omega) (fun i hi => by
          have := hall (i + 1) (by omega)
          simpa [bat] using this)
        omega
  have hk := hs k l h2 h3
  unfold signs
  rcases h4 with h4 | h4 | h4
  · omega
  · have := span_le (eqI 35) l
    omega
  · rcases Nat.lt_or_ge k (span (eqI 35) l) with hx | hx
    · have := (span_mid (eqI 35) l k hx).2
      unfold eqI at this
      exact absurd (by simpa using this) h4
    · omega

theorem allI_at {P : Int → Bool} {l : List UInt8} (h : ∀ i, i < l.length → P (bat l i) = true) : allI P l = true := by
  unfold allI
  rw [List.all_eq_true]
  intro c hc
  obtain ⟨i, hi, he⟩ := List.getElem_of_mem hc
  have := h i hi
  simpa [bat, hi, he] using this
theorem allI_not {P : Int → Bool} {l : List UInt8} {i : Nat} (hi : i < l.length) (h : P (bat l i) = false) : allI P l = false := by
  unfold allI
  rw [List.all_eq_false]
  refine ⟨l[i], List.getElem_mem hi, ?_⟩
  have e : bat l i = ((l[i].toNat : Nat) : Int) := by simp [bat, hi]
  rw [← e, h]
  simp
theorem emptyF_yes {l : List UInt8} {L : Nat} (hL : run (neI 10) l 0 = L) (hl : L ≤ l.length) (h : ∀ i, i < L → blankI (bat l i) = true) : emptyF l = L + 1 := by
  unfold emptyF
  simp only [hL]
  rw [if_pos (allI_at fun i hi => by
    rw [List.length_take] at hi
    have : i < L := by omega
    have e : bat (l.take L) i = bat l i := by simp [bat, List.getElem?_take, this]
    rw [e]
    exact h i this)]
theorem emptyF_no {l : List UInt8} {i : Nat} (hi : i < run (neI 10) l 0) (hl : run (neI 10) l 0 ≤ l.length) (h : blankI (bat l i) = false) : emptyF l = 0 := by
  unfold emptyF
  simp only []
  rw [if_neg]
  have e : bat (l.take (run (neI 10) l 0)) i = bat l i := by simp [bat, List.getElem?_take, hi]
  rw [allI_not (i := i) (by rw [List.length_take]; omega) (by rw [e]; exact h)]
  simp

end Go.Proofs.YthddhejbkdenkaaGreatDoor
