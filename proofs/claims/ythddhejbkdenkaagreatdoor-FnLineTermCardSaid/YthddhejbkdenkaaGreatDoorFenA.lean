/- Fences: what a fence line is, as a function of the line; trimming. Plain law, no program in sight. -/
import Derived.Test.YthddhejbkdenkaaGreatDoorRun
namespace Go.Proofs.YthddhejbkdenkaaGreatDoor

def blankI (n : Int) : Bool := n == 32 || n == 9
def vertI (n : Int) : Bool := n == 10 || n == 13 || n == 12 || n == 11
def spaceI (n : Int) : Bool := blankI n || vertI n
def eqI (c : Int) (n : Int) : Bool := n == c
def neI (c : Int) (n : Int) : Bool := !(n == c)

/-- how many blanks a text begins with, at most so many -/
def lead : Nat → List UInt8 → Nat
  | 0, _ => 0
  | _ + 1, [] => 0
  | m + 1, c :: r => if c = 32 then lead m r + 1 else 0
theorem lead_le (m : Nat) (l : List UInt8) : lead m l ≤ m := by
  induction m generalizing l with
  | zero => cases l <;> exact Nat.le_refl _
  | succ m ih =>
    cases l with
    | nil => exact Nat.zero_le _
    | cons c r =>
      rw [lead]
      split
      · exact Nat.succ_le_succ (ih r)
      · exact Nat.zero_le _
theorem lead_len (m : Nat) (l : List UInt8) : lead m l ≤ l.length := by
  induction m generalizing l with
  | zero => cases l <;> exact Nat.zero_le _
  | succ m ih =>
    cases l with
    | nil => exact Nat.le_refl _
    | cons c r =>
      rw [lead]
      split
      · exact Nat.succ_le_succ (ih r)
      · exact Nat.zero_le _
/-- the walk's own words: so many blanks have been passed, and here it stops -/
theorem lead_is {m k : Nat} {l : List UInt8} (h1 : k ≤ m) (h2 : k ≤ l.length) (h3 : ∀ i, i < k → bat l i = 32) (h4 : k = m ∨ k = l.length ∨ bat l k ≠ 32) : lead m l = k := by
  induction m generalizing l k with
  | zero => cases l <;> (rw [lead]; omega)
  | succ m ih =>
    cases l with
    | nil => rw [lead]; simp at h2; omega
    | cons c r =>
      rw [lead]
      cases k with
      | zero =>
        rcases h4 with h4 | h4 | h4
        · omega
        · simp at h4
        · rw [if_neg (fun e => h4 (by subst e; rfl))]
      | succ k =>
        have h0 := h3 0 (by omega)
        have e : c = 32 := by
          apply UInt8.toNat_inj.1
          have : ((c.toNat : Nat) : Int) = 32 := h0
          show c.toNat = 32
          omega
        rw [if_pos e, ih (k := k) (by omega) (by simp at h2; omega) (fun i hi => by
          have := h3 (i + 1) (by omega)
          simpa [bat] using this) (by
          rcases h4 with h4 | h4 | h4
          · exact Or.inl (by omega)
          · exact Or.inr (Or.inl (by simp at h4; omega))
          · exact Or.inr (Or.inr (by simpa [bat] using h4)))]

def trimL (P : Int → Bool) (l : List UInt8) : List UInt8 := l.drop (span P l)
def trimR (P : Int → Bool) (l : List UInt8) : List UInt8 := (trimL P l.reverse).reverse
def trim (P : Int → Bool) (l : List UInt8) : List UInt8 := trimR P (trimL P l)

theorem trimL_step {P : Int → Bool} {c : UInt8} {r : List UInt8} (h : P (c.toNat : Int) = true) : trimL P (c :: r) = trimL P r := by
  unfold trimL
  rw [span, if_pos h, List.drop_succ_cons]
theorem trimL_stop {P : Int → Bool} {c : UInt8} {r : List UInt8} (h : P (c.toNat : Int) = false) : trimL P (c :: r) = c :: r := by
  unfold trimL
  rw [span, if_neg (by rw [h]; simp)]
  rfl
theorem trimL_nil (P : Int → Bool) : trimL P [] = [] := rfl
theorem trimL_at {P : Int → Bool} {l : List UInt8} {j : Nat} (hj : j < l.length) (h : P (bat l j) = true) : trimL P (l.drop j) = trimL P (l.drop (j + 1)) := by
  rw [drop_cons l j hj]
  exact trimL_step h
theorem trimL_end {P : Int → Bool} {l : List UInt8} {j : Nat} (hj : j < l.length) (h : P (bat l j) = false) : trimL P (l.drop j) = l.drop j := by
  rw [drop_cons l j hj]
  exact trimL_stop h
theorem take_last (l : List UInt8) (m : Nat) (h : m < l.length) : (l.take (m + 1)).reverse = l.getD m 0 :: (l.take m).reverse := by
  rw [List.take_succ_eq_append_getElem h, List.reverse_append]
  simp [h]
theorem trimR_at {P : Int → Bool} {l : List UInt8} {m : Nat} (hm : m < l.length) (h : P (bat l m) = true) : trimR P (l.take (m + 1)) = trimR P (l.take m) := by
  unfold trimR
  rw [take_last l m hm]
  exact congrArg _ (trimL_step h)
theorem trimR_end {P : Int → Bool} {l : List UInt8} {m : Nat} (hm : m < l.length) (h : P (bat l m) = false) : trimR P (l.take (m + 1)) = l.take (m + 1) := by
  unfold trimR
  rw [take_last l m hm, trimL_stop h, ← take_last l m hm, List.reverse_reverse]
theorem trimR_nil (P : Int → Bool) : trimR P [] = [] := rfl
theorem span_congr {P Q : Int → Bool} : ∀ {l : List UInt8}, (∀ c ∈ l, P (c.toNat : Int) = Q (c.toNat : Int)) → span P l = span Q l
  | [], _ => rfl
  | c :: r, h => by
    rw [span, span, h c (by simp), span_congr (fun x hx => h x (by simp [hx]))]
theorem trimL_congr {P Q : Int → Bool} {l : List UInt8} (h : ∀ c ∈ l, P (c.toNat : Int) = Q (c.toNat : Int)) : trimL P l = trimL Q l := by
  unfold trimL
  rw [span_congr h]
theorem trimL_mem {P : Int → Bool} {l : List UInt8} {c : UInt8} (h : c ∈ trimL P l) : c ∈ l := List.mem_of_mem_drop h
theorem trim_congr {P Q : Int → Bool} {l : List UInt8} (h : ∀ c ∈ l, P (c.toNat : Int) = Q (c.toNat : Int)) : trim P l = trim Q l := by
  unfold trim trimR
  rw [← trimL_congr h, trimL_congr (l := (trimL P l).reverse) (fun c hc => h c (trimL_mem (List.mem_reverse.1 hc)))]
/-- what is trimmed away anyway may be passed ahead -/
theorem trimL_skip {P Q : Int → Bool} (h : ∀ n, Q n = true → P n = true) : ∀ l : List UInt8, trimL P (l.drop (span Q l)) = trimL P l
  | [] => rfl
  | c :: r => by
    rw [span]
    split
    · rename_i hq
      rw [List.drop_succ_cons, trimL_skip h r, trimL_step (h _ hq)]
    · rfl
theorem trim_skip {P Q : Int → Bool} (h : ∀ n, Q n = true → P n = true) (l : List UInt8) : trim P (l.drop (span Q l)) = trim P l := by
  unfold trim
  rw [trimL_skip h]

/-- a run that the end of the line stops anyway -/
theorem span_cut {P : Int → Bool} {l : List UInt8} {L i : Nat} (hi : i ≤ L) (hL : L < l.length) (hp : P (bat l L) = false) : run P (l.take L) i = run P l i := by
  have hm : ∀ d i, L - i = d → i ≤ L → run P (l.take L) i = run P l i := by
    intro d
    induction d with
    | zero =>
      intro i hd hi
      have e : i = L := by omega
      subst e
      rw [run_stop hp, run_end (by rw [List.length_take]; omega)]
    | succ d ih =>
      intro i hd hi
      have hlt : i < L := by omega
      have e : bat (l.take L) i = bat l i := by simp [bat, List.getElem?_take, hlt]
      cases hv : P (bat l i) with
      | true =>
        rw [run_step (l := l) (by omega) hv, run_step (l := l.take L) (by rw [List.length_take]; omega) (by rw [e]; exact hv)]
        exact ih (i + 1) (by omega) (by omega)
      | false => rw [run_stop (l := l) hv, run_stop (l := l.take L) (by rw [e]; exact hv)]
  exact hm _ i rfl hi

/-- the marks of a fence and the info string behind them, off a line -/
def fence (D : List UInt8) (ask : Bool) (marker : List UInt8) : Option (List UInt8 × List UInt8) :=
  let i := lead 3 D
  if D.length ≤ i then none
  else if (bat D i == 126 || bat D i == 96) = false then none
  else
    let e := run (eqI (bat D i)) D i
    let mark := (D.take e).drop i
    if e - i < 3 then none
    else if marker ≠ [] ∧ mark ≠ marker then none
    else if ask = false then (if e < D.length then none else some (mark, []))
    else some (mark, trim blankI (D.drop e))

end Go.Proofs.YthddhejbkdenkaaGreatDoor
