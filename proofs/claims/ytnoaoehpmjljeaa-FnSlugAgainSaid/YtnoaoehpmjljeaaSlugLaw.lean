/- Plain laws of slugs: the slug of a slug is itself. No program in sight. -/
import Derived.Test.YtnoaoehpmjljeaaChars
namespace Go.Proofs.Ytnoaoehpmjljeaa

def aB (c : UInt8) : Bool := alnI (c.toNat : Int)

/-- letters and digits as they are, a run of others as one dash -/
def comp : Bool → List UInt8 → List UInt8
  | _, [] => []
  | s, c :: r => if aB c then c :: comp false r else if s then comp true r else 45 :: comp true r

/-- where the trimmed text begins: the first place without a dash, or the last place -/
def fromIx : List UInt8 → Nat
  | [] => 0
  | c :: r => if c = 45 then (if r = [] then 0 else fromIx r + 1) else 0
/-- where it ends: the last place up to b without a dash, or 0 -/
def toIx (l : List UInt8) : Nat → Nat
  | 0 => 0
  | b + 1 => if l.getD (b + 1) 0 = 45 then toIx l b else b + 1

def trim (l : List UInt8) : List UInt8 := (l.take (toIx l (l.length - 1) + 1)).drop (fromIx l)
def slug (l : List UInt8) : List UInt8 := if l = [] then [] else trim (comp false l)

/-- letters, digits and dashes, no two dashes one behind the other; s: a dash stands ahead -/
def good : Bool → List UInt8 → Prop
  | _, [] => True
  | s, c :: r => (aB c = true ∧ good false r) ∨ (c = 45 ∧ s = false ∧ good true r)

theorem aB45 : aB 45 = false := by decide

theorem good_comp (l : List UInt8) : ∀ s, good s (comp s l) := by
  induction l with
  | nil => intro s; trivial
  | cons c r ih =>
    intro s
    rw [comp]
    by_cases hc : aB c = true
    · rw [if_pos hc]
      exact Or.inl ⟨hc, ih false⟩
    · rw [if_neg hc]
      cases s with
      | true => exact ih true
      | false => exact Or.inr ⟨rfl, rfl, ih true⟩

theorem comp_good (l : List UInt8) : ∀ s, good s l → comp s l = l := by
  induction l with
  | nil => intro s _; rfl
  | cons c r ih =>
    intro s h
    rw [comp]
    rcases h with ⟨hc, h⟩ | ⟨rfl, rfl, h⟩
    · rw [if_pos hc, ih false h]
    · rw [aB45]
      simp [ih true h]

theorem good_false (l : List UInt8) (h : good true l) : good false l := by
  cases l with
  | nil => trivial
  | cons c r =>
    rcases h with h | ⟨_, h, _⟩
    · exact Or.inl h
    · cases h

theorem good_take (l : List UInt8) : ∀ s k, good s l → good s (l.take k) := by
  induction l with
  | nil => intro s k _; simp [good]
  | cons c r ih =>
    intro s k h
    cases k with
    | zero => trivial
    | succ k =>
      rw [List.take_succ_cons]
      rcases h with ⟨hc, h⟩ | ⟨hc, hs, h⟩
      · exact Or.inl ⟨hc, ih _ k h⟩
      · exact Or.inr ⟨hc, hs, ih _ k h⟩

theorem good_drop (l : List UInt8) : ∀ s k, good s l → good false (l.drop k) ∨ k = 0 := by
  induction l with
  | nil => intro s k _; simp [good]
  | cons c r ih =>
    intro s k h
    cases k with
    | zero => exact Or.inr rfl
    | succ k =>
      rw [List.drop_succ_cons]
      rcases h with ⟨hc, h⟩ | ⟨hc, hs, h⟩
      · rcases ih _ k h with h1 | h1
        · exact Or.inl h1
        · subst h1; exact Or.inl h
      · rcases ih _ k h with h1 | h1
        · exact Or.inl h1
        · subst h1; exact Or.inl (good_false _ h)

theorem good_drop' (l : List UInt8) (k : Nat) (h : good false l) : good false (l.drop k) := by
  rcases good_drop l false k h with h1 | h1
  · exact h1
  · subst h1; exact h

theorem toIx_le (l : List UInt8) (b : Nat) : toIx l b ≤ b := by
  induction b with
  | zero => simp [toIx]
  | succ b ih => rw [toIx]; split <;> omega

/-- beyond it stand dashes -/
theorem toIx_spec (l : List UInt8) (b : Nat) : (toIx l b = 0 ∨ l.getD (toIx l b) 0 ≠ 45) ∧ ∀ i, toIx l b < i → i ≤ b → l.getD i 0 = 45 := by
  induction b with
  | zero => exact ⟨Or.inl rfl, fun i h1 h2 => by simp only [toIx] at h1; omega⟩
  | succ b ih =>
    by_cases h : l.getD (b + 1) 0 = 45
    · rw [toIx, if_pos h]
      refine ⟨ih.1, fun i h1 h2 => ?_⟩
      by_cases e : i = b + 1
      · rw [e]; exact h
      · exact ih.2 i h1 (by omega)
    · rw [toIx, if_neg h]
      exact ⟨Or.inr h, fun i h1 h2 => by omega⟩

/-- ahead of the beginning stand dashes -/
theorem fromIx_spec (l : List UInt8) (h : l ≠ []) : fromIx l < l.length ∧ (l.getD (fromIx l) 0 ≠ 45 ∨ fromIx l + 1 = l.length) ∧ ∀ i, i < fromIx l → l.getD i 0 = 45 := by
  induction l with
  | nil => exact absurd rfl h
  | cons c r ih =>
    rw [fromIx]
    by_cases hc : c = 45
    · rw [if_pos hc]
      by_cases hr : r = []
      · rw [if_pos hr, hr]
        exact ⟨by simp, Or.inr rfl, fun i hi => by omega⟩
      · rw [if_neg hr]
        obtain ⟨h1, h2, h3⟩ := ih hr
        refine ⟨by simp; omega, ?_, fun i hi => ?_⟩
        · rcases h2 with h2 | h2
          · exact Or.inl (by simpa using h2)
          · exact Or.inr (by simp; omega)
        · cases i with
          | zero => simpa using hc
          | succ i => simpa using h3 i (by omega)
    · rw [if_neg hc]
      exact ⟨by simp, Or.inl (by simpa using hc), fun i hi => by omega⟩

/-- a text whose ends are no dashes is its own trim -/
theorem trim_id (l : List UInt8) (hn : l ≠ []) (h0 : l.getD 0 0 ≠ 45) (h1 : l.getD (l.length - 1) 0 ≠ 45) : trim l = l := by
  have hf : fromIx l = 0 := by
    cases l with
    | nil => exact absurd rfl hn
    | cons c r => rw [fromIx, if_neg (by simpa using h0)]
  have ht : toIx l (l.length - 1) = l.length - 1 := by
    cases hl : l.length - 1 with
    | zero => rfl
    | succ b => rw [toIx, if_neg (by rw [← hl]; exact h1)]
  have hp : 0 < l.length := List.length_pos_iff.2 hn
  rw [trim, hf, ht, List.drop_zero, List.take_of_length_le (by omega)]

theorem good_dashes (l : List UInt8) (h : good false l) (hn : l ≠ []) (hd : ∀ i, i < l.length → l.getD i 0 = 45) : l = [45] := by
  match l, hn with
  | [c], _ =>
    have := hd 0 (by simp)
    simp at this
    rw [this]
  | c :: d :: r, _ =>
    have h0 := hd 0 (by simp)
    have h1 := hd 1 (by simp)
    simp at h0 h1
    subst h0
    subst h1
    rcases h with ⟨hc, _⟩ | ⟨_, _, h2⟩
    · rw [aB45] at hc; cases hc
    · rcases h2 with ⟨hc, _⟩ | ⟨_, hc, _⟩
      · rw [aB45] at hc; cases hc
      · cases hc

theorem comp_ne (l : List UInt8) (h : l ≠ []) : comp false l ≠ [] := by
  cases l with
  | nil => exact absurd rfl h
  | cons c r =>
    rw [comp]
    split
    · simp
    · simp

/-- what a slug is like: one dash, or a good text without dashes at its ends -/
theorem trim_shape (l : List UInt8) (h : good false l) (hn : l ≠ []) : trim l = [45] ∨ (good false (trim l) ∧ trim l ≠ [] ∧ (trim l).getD 0 0 ≠ 45 ∧ (trim l).getD ((trim l).length - 1) 0 ≠ 45) := by
  obtain ⟨f1, f2, f3⟩ := fromIx_spec l hn
  obtain ⟨t1, t2⟩ := toIx_spec l (l.length - 1)
  have t3 := toIx_le l (l.length - 1)
  by_cases hd : ∀ i, i < l.length → l.getD i 0 = 45
  · left
    rw [good_dashes l h hn hd]
    decide
  · right
    have hf : l.getD (fromIx l) 0 ≠ 45 := by
      rcases f2 with f2 | f2
      · exact f2
      · intro e
        exact hd fun i hi => by
          by_cases hi2 : i = fromIx l
          · rw [hi2]; exact e
          · exact f3 i (by omega)
    have hft : fromIx l ≤ toIx l (l.length - 1) := by
      rcases Nat.lt_or_ge (toIx l (l.length - 1)) (fromIx l) with h1 | h1
      · exact absurd (t2 _ h1 (by omega)) hf
      · exact h1
    have htn : l.getD (toIx l (l.length - 1)) 0 ≠ 45 := by
      rcases t1 with t1 | t1
      · have : fromIx l = 0 := by omega
        rw [t1, ← this]
        exact hf
      · exact t1
    have hlen : (trim l).length = toIx l (l.length - 1) + 1 - fromIx l := by
      rw [trim, List.length_drop, List.length_take]
      omega
    have hget : ∀ i, i < (trim l).length → (trim l).getD i 0 = l.getD (fromIx l + i) 0 := by
      intro i hi
      rw [hlen] at hi
      rw [trim]
      simp only [List.getD, List.getElem?_drop, List.getElem?_take]
      rw [if_pos (by omega)]
    refine ⟨good_drop' _ _ (good_take _ _ _ h), fun e => ?_, ?_, ?_⟩
    · have : (trim l).length = 0 := by rw [e]; rfl
      omega
    · rw [hget 0 (by omega), Nat.add_zero]
      exact hf
    · rw [hget _ (by omega), hlen]
      rw [show fromIx l + (toIx l (l.length - 1) + 1 - fromIx l - 1) = toIx l (l.length - 1) by omega]
      exact htn

theorem slug_again (l : List UInt8) : slug (slug l) = slug l := by
  by_cases hl : l = []
  · simp [slug, hl]
  · have hs : slug l = trim (comp false l) := by rw [slug, if_neg hl]
    rcases trim_shape (comp false l) (good_comp l false) (comp_ne l hl) with h | ⟨h1, h2, h3, h4⟩
    · rw [hs, h]
      decide
    · rw [hs, slug, if_neg h2, comp_good _ _ h1, trim_id _ h2 h3 h4]

end Go.Proofs.Ytnoaoehpmjljeaa
