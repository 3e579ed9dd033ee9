/- Smart punctuation: pieces, and what each becomes. Plain law, no program in sight. -/
import Derived.Test.YtnkjnlmghnomiaaDoorPanA
namespace Go.Proofs.YtnkjnlmghnomiaaDoor
open Go.ChangeShapes Go.WideShapes Go.ChangeAt Go.RowKit

theorem bat_c0 (c : UInt8) (m : List UInt8) : bat (c :: m) 0 = (c.toNat : Int) := rfl
theorem bat_cs (c : UInt8) (m : List UInt8) (k : Nat) : bat (c :: m) (k + 1) = bat m k := rfl
theorem bat_app_l {a m : List UInt8} {j : Nat} (h : j < a.length) : bat (a ++ m) j = bat a j := by
  unfold bat
  simp only [List.getD, List.getElem?_append_left h]
theorem bat_app_r {a m : List UInt8} (j : Nat) : bat (a ++ m) (a.length + j) = bat m j := by
  unfold bat
  simp only [List.getD, List.getElem?_append_right (Nat.le_add_right _ _), Nat.add_sub_cancel_left]
theorem at_bat {l a m : List UInt8} {i j : Nat} (h : l.drop i = a ++ m) (hj : j < a.length) : bat l (i + j) = bat a j := by
  rw [← bat_drop0, h, bat_app_l hj]

/-- one to four words of at most ten letters; w words so far, the last one of n letters -/
def wordsGo (w n : Nat) : List UInt8 → Bool
  | [] => decide (0 < n) && decide (w ≤ 4)
  | c :: r => if lettI (c.toNat : Int) then decide (n < 10) && wordsGo w (n + 1) r else if (c.toNat : Int) = 32 ∧ 0 < n then wordsGo (w + 1) 0 r else false
def wordsL (s : List UInt8) : Bool := wordsGo 1 0 s
def lwI (n : Int) : Bool := lettI n || n == 32
theorem wordsGo_mem {s : List UInt8} : ∀ {w n : Nat}, wordsGo w n s = true → ∀ c ∈ s, lwI (c.toNat : Int) = true := by
  induction s with
  | nil => intro w n h c hc; cases hc
  | cons x r ih =>
    intro w n h c hc
    rw [wordsGo] at h
    by_cases hl : lettI (x.toNat : Int) = true
    · rw [if_pos hl, Bool.and_eq_true] at h
      rcases List.mem_cons.1 hc with e | e
      · rw [e]; unfold lwI; rw [hl]; rfl
      · exact ih h.2 c e
    · rw [if_neg hl] at h
      by_cases hb : (x.toNat : Int) = 32 ∧ 0 < n
      · rw [if_pos hb] at h
        rcases List.mem_cons.1 hc with e | e
        · rw [e]; unfold lwI; rw [hb.1]; simp
        · exact ih h c e
      · rw [if_neg hb] at h
        cases h
theorem wordsGo_w {s : List UInt8} : ∀ {w n : Nat}, wordsGo w n s = true → w ≤ 4 := by
  induction s with
  | nil => intro w n h; rw [wordsGo] at h; simp at h; omega
  | cons x r ih =>
    intro w n h
    rw [wordsGo] at h
    by_cases hl : lettI (x.toNat : Int) = true
    · rw [if_pos hl, Bool.and_eq_true] at h
      exact ih h.2
    · rw [if_neg hl] at h
      by_cases hb : (x.toNat : Int) = 32 ∧ 0 < n
      · rw [if_pos hb] at h
        have := ih h
        omega
      · rw [if_neg hb] at h
        cases h
theorem wordsGo_len {s : List UInt8} : ∀ {w n : Nat}, n ≤ 10 → wordsGo w n s = true → n + s.length + 11 * w ≤ 54 := by
  induction s with
  | nil => intro w n hn h; rw [wordsGo] at h; simp at h; simp; omega
  | cons x r ih =>
    intro w n hn h
    rw [wordsGo] at h
    by_cases hl : lettI (x.toNat : Int) = true
    · rw [if_pos hl, Bool.and_eq_true, decide_eq_true_eq] at h
      have := ih (by omega) h.2
      simp only [List.length_cons]
      omega
    · rw [if_neg hl] at h
      by_cases hb : (x.toNat : Int) = 32 ∧ 0 < n
      · rw [if_pos hb] at h
        have := ih (Nat.zero_le _) h
        simp only [List.length_cons]
        omega
      · rw [if_neg hb] at h
        cases h
theorem wordsL_first {s : List UInt8} (h : wordsL s = true) : 0 < s.length ∧ lettI (bat s 0) = true := by
  cases s with
  | nil => cases h
  | cons x r =>
    refine ⟨by simp, ?_⟩
    rw [bat_c0]
    unfold wordsL at h
    rw [wordsGo] at h
    by_cases hl : lettI (x.toNat : Int) = true
    · exact hl
    · rw [if_neg hl, if_neg (by omega)] at h
      cases h
theorem wordsGo_last {s : List UInt8} : ∀ {w n : Nat}, wordsGo w n s = true → 0 < s.length → lettI (bat s (s.length - 1)) = true := by
  induction s with
  | nil => intro w n _ h; simp at h
  | cons x r ih =>
    intro w n h _
    rw [wordsGo] at h
    cases r with
    | nil =>
      by_cases hl : lettI (x.toNat : Int) = true
      · exact hl
      · rw [if_neg hl] at h
        by_cases hb : (x.toNat : Int) = 32 ∧ 0 < n
        · rw [if_pos hb] at h
          cases h
        · rw [if_neg hb] at h
          cases h
    | cons y q =>
      have e : bat (x :: y :: q) ((x :: y :: q).length - 1) = bat (y :: q) ((y :: q).length - 1) := by
        simp only [List.length_cons, Nat.add_sub_cancel]
        exact bat_cs _ _ _
      rw [e]
      by_cases hl : lettI (x.toNat : Int) = true
      · rw [if_pos hl, Bool.and_eq_true] at h
        exact ih h.2 (by simp)
      · rw [if_neg hl] at h
        by_cases hb : (x.toNat : Int) = 32 ∧ 0 < n
        · rw [if_pos hb] at h
          exact ih h (by simp)
        · rw [if_neg hb] at h
          cases h
theorem wordsL_last {s : List UInt8} (h : wordsL s = true) : lettI (bat s (s.length - 1)) = true := wordsGo_last h (wordsL_first h).1
theorem wordsL_len {s : List UInt8} (h : wordsL s = true) : s.length ≤ 43 := by
  have := wordsGo_len (Nat.zero_le _) h
  omega
/-- one word -/
def oneL (s : List UInt8) : Bool := s.all (fun c => !((c.toNat : Int) == 32)) && wordsL s

/-- a number's digits -/
def decL (n : Nat) : List UInt8 := if n < 10 then [UInt8.ofNat (48 + n)] else decL (n / 10) ++ [UInt8.ofNat (48 + n % 10)]
termination_by n
decreasing_by omega
theorem dig_of (k : Nat) (h : k < 10) : digI ((UInt8.ofNat (48 + k)).toNat : Int) = true := by
  unfold digI
  rw [UInt8.toNat_ofNat']
  simp only [decide_eq_true_eq]
  omega
theorem decL_dig (n : Nat) : ∀ c ∈ decL n, digI (c.toNat : Int) = true := by
  induction n using Nat.strongRecOn with
  | _ n ih =>
    rw [decL]
    by_cases h : n < 10
    · rw [if_pos h]
      intro c hc
      rw [List.mem_singleton] at hc
      rw [hc]
      exact dig_of n h
    · rw [if_neg h]
      intro c hc
      rcases List.mem_append.1 hc with e | e
      · exact ih (n / 10) (by omega) c e
      · rw [List.mem_singleton] at e
        rw [e]
        exact dig_of _ (by omega)
theorem decL_pos (n : Nat) : 0 < (decL n).length := by
  rw [decL]
  split <;> simp
theorem decL_small {n : Nat} (h : n < 10) : decL n = [UInt8.ofNat (48 + n)] := by rw [decL, if_pos h]
theorem decL_big {n : Nat} (h : 10 ≤ n) : 1 < (decL n).length := by
  rw [decL, if_neg (by omega)]
  have := decL_pos (n / 10)
  simp
  omega
theorem decL_first {n : Nat} (h : 0 < n) : 49 ≤ bat (decL n) 0 ∧ bat (decL n) 0 ≤ 57 := by
  induction n using Nat.strongRecOn with
  | _ n ih =>
    rw [decL]
    by_cases h1 : n < 10
    · rw [if_pos h1, bat_c0, UInt8.toNat_ofNat']
      omega
    · rw [if_neg h1, bat_app_l (decL_pos _)]
      exact ih (n / 10) (by omega) (by omega)
theorem decL_len {n : Nat} (h : n ≤ 999) : (decL n).length ≤ 3 := by
  have h1 : ∀ k, k < 10 → (decL k).length = 1 := fun k hk => by rw [decL_small hk]; rfl
  have h2 : ∀ k, k < 100 → (decL k).length ≤ 2 := by
    intro k hk
    rw [decL]
    split
    · simp
    · rw [List.length_append, h1 _ (by omega)]; simp
  rw [decL]
  split
  · simp
  · rw [List.length_append]
    have := h2 (n / 10) (by omega)
    simp
    omega
/-- the first byte tells a number of one digit -/
theorem decL_one {n : Nat} (h : n < 10) : bat (decL n) 0 = 48 + n := by
  rw [decL_small h, bat_c0, UInt8.toNat_ofNat']
  omega

/-- a piece: its kind, its variant, two texts, two numbers -/
structure Pc where
  kind : Nat
  var : Nat
  a : List UInt8
  b : List UInt8
  n : Nat
  m : Nat
def hyL (v : Nat) : List UInt8 := [45, 45, 45].take (v % 3 + 1)
def endL (v : Nat) : List UInt8 := if v = 0 then [115] else if v = 1 then [116] else if v = 2 then [109] else if v = 3 then [100] else if v = 4 then [114, 101] else if v = 5 then [108, 108] else [118, 101]
def signL (v : Nat) : List UInt8 := if v = 0 then [40, 99, 41] else if v = 1 then [40, 67, 41] else if v = 2 then [40, 114, 41] else if v = 3 then [40, 82, 41] else if v = 4 then [40, 116, 109, 41] else [40, 84, 77, 41]
def signM (v : Nat) : List UInt8 := if v = 0 then copyL else if v = 1 then copyL else if v = 2 then regL else if v = 3 then regL else tradeL
def entL (v : Nat) : List UInt8 := if v = 0 then [38, 97, 109, 112, 59] else if v = 1 then [38, 108, 116, 59] else if v = 2 then [38, 103, 116, 59] else if v = 3 then hellipL else copyL
def tagL : List UInt8 := [32, 98, 61, 34, 49, 47, 50, 32, 45, 45, 32, 39, 99, 39, 34, 62]
def wrL (p : Pc) : List UInt8 :=
  if p.kind = 1 then 34 :: (p.a ++ [34]) else if p.kind = 2 then 39 :: (p.a ++ [39]) else if p.kind = 3 then quotL ++ (p.a ++ quotL) else if p.kind = 4 then p.a ++ 39 :: endL p.var else
  if p.kind = 5 then 96 :: 96 :: (p.a ++ [39, 39]) else if p.kind = 6 then hyL p.var else if p.kind = 7 then p.a ++ (hyL p.var ++ p.b) else if p.kind = 8 then p.a ++ [46, 46, 46] else if p.kind = 9 then [46, 32, 46, 32, 46] else
  if p.kind = 10 then [46, 46] else if p.kind = 11 then signL p.var else if p.kind = 12 then decL p.n ++ 47 :: decL p.m else if p.kind = 13 then entL p.var else if p.kind = 14 then 60 :: (p.a ++ tagL) else p.a
def dashL (F : Cfg) (v : Nat) (bl : Bool) : List UInt8 :=
  if F.dash = false then hyL v else if F.latex = true then (if v % 3 = 1 then ndashL else if v % 3 = 2 then mdashL else [45]) else
  if v % 3 = 1 then mdashL else if v % 3 = 2 then (if bl then mdashL ++ ndashL else mdashL ++ [45]) else if bl then ndashL else [45]
def fractL (F : Cfg) (n m : Nat) : List UInt8 :=
  if F.frac = true then supL ++ (decL n ++ (fraslL ++ (decL m ++ subL))) else if n = 1 ∧ m = 2 then fracL 49 50 else if n = 1 ∧ m = 4 then fracL 49 52 else if n = 3 ∧ m = 4 then fracL 51 52 else decL n ++ 47 :: decL m
def mnL (F : Cfg) (p : Pc) : List UInt8 :=
  if p.kind = 1 then quoL true (quoK F) false ++ (p.a ++ quoL false (quoK F) false) else if p.kind = 2 then quoL true 115 false ++ (p.a ++ quoL false 115 false) else
  if p.kind = 3 then quoL true (quoK F) F.nbsp ++ (p.a ++ quoL false (quoK F) F.nbsp) else if p.kind = 4 then p.a ++ (rsquoL ++ endL p.var) else
  if p.kind = 5 then quoL true 100 false ++ (p.a ++ quoL false 100 false) else if p.kind = 6 then dashL F p.var true else if p.kind = 7 then p.a ++ (dashL F p.var false ++ p.b) else
  if p.kind = 8 then p.a ++ hellipL else if p.kind = 9 then hellipL else if p.kind = 11 then signM p.var else if p.kind = 12 then fractL F p.n p.m else wrL p

/-- a right piece -/
structure OkP (p : Pc) : Prop where
  kind : p.kind < 15
  var : p.var ≤ 6
  n1 : 1 ≤ p.n
  n2 : p.n ≤ 999
  m1 : 1 ≤ p.m
  m2 : p.m ≤ 999
  a : wordsL p.a = true
  single : p.kind = 2 → 2 < p.a.length ∧ lettI (bat p.a 1) = true ∧ lettI (bat p.a 2) = true
  one : p.kind = 4 ∨ p.kind = 7 ∨ p.kind = 8 ∨ p.kind = 14 → oneL p.a = true
  b : p.kind = 7 → oneL p.b = true

end Go.Proofs.YtnkjnlmghnomiaaDoor
