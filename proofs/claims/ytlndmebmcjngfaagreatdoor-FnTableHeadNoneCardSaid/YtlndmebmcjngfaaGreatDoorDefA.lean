/- Definitions: a definition's text, by places. Plain law, no program in sight. -/
import Derived.Test.YtlndmebmcjngfaaGreatDoorCut
namespace Go.Proofs.YtlndmebmcjngfaaGreatDoor
open Go.ChangeShapes Go.WideShapes Go.ChangeAt Go.RowKit

/-- a letter from a to z -/
def lowI (n : Int) : Bool := decide (97 ≤ n ∧ n ≤ 122)
/-- an id: letters -/
def lowL (s : List UInt8) : Bool := s.all (fun c => lowI (c.toNat : Int))
def idL (s : List UInt8) : Bool := lowL s && decide (0 < s.length) && decide (s.length ≤ 20)
/-- words with single blanks between them; bl: a blank, or nothing, stands ahead -/
def docGo (bl : Bool) : List UInt8 → Bool
  | [] => !bl
  | c :: r => if (c.toNat : Int) = 32 then (if bl then false else docGo true r) else if lowI (c.toNat : Int) then docGo false r else false
def docL (s : List UInt8) : Bool := docGo true s && decide (s.length ≤ 60)

/-- a letter or a blank -/
def wordI (n : Int) : Bool := lowI n || n == 32
theorem docGo_word {bl : Bool} {s : List UInt8} (h : docGo bl s = true) : ∀ c ∈ s, wordI (c.toNat : Int) = true := by
  induction s generalizing bl with
  | nil => intro c hc; cases hc
  | cons x r ih =>
    rw [docGo] at h
    intro c hc
    by_cases hx : (x.toNat : Int) = 32
    · rw [if_pos hx] at h
      cases bl with
      | true => cases h
      | false =>
        rcases List.mem_cons.1 hc with e | e
        · rw [e]; unfold wordI; rw [hx]; rfl
        · exact ih h c e
    · rw [if_neg hx] at h
      by_cases hl : lowI (x.toNat : Int) = true
      · rw [if_pos hl] at h
        rcases List.mem_cons.1 hc with e | e
        · rw [e]; unfold wordI; rw [hl]; rfl
        · exact ih h c e
      · rw [if_neg hl] at h
        cases h
theorem docGo_pos {s : List UInt8} (h : docGo true s = true) : 0 < s.length := by
  cases s with
  | nil => cases h
  | cons x r => simp

/-- what stands behind the address of a definition -/
def tailL (ti : List UInt8) (q r : UInt8) (nx : Bool) : List UInt8 := if ti = [] then [] else (if nx then [10, 32, 32] else [32]) ++ (q :: (ti ++ [r]))
/-- a definition's text -/
def defL (bl : Nat) (id path ti : List UInt8) (q r : UInt8) (nx : Bool) : List UInt8 :=
  List.replicate bl 32 ++ (91 :: (id ++ (93 :: 58 :: 32 :: 47 :: (path ++ (tailL ti q r nx ++ [10])))))

/-- a definition that is one, by places: s its bracket, e the second one, f the end of its address; then its end, or the quote at k with the last one at g -/
structure DefT (l : List UInt8) (s e f : Nat) : Prop where
  s3 : s ≤ 3
  blank : ∀ j, j < s → bat l j = 32
  open' : bat l s = 91
  se : s + 1 < e
  id : ∀ j, s < j → j < e → lowI (bat l j) = true
  close : bat l e = 93
  colon : bat l (e + 1) = 58
  gap : bat l (e + 2) = 32
  slash : bat l (e + 3) = 47
  ef : e + 3 < f
  path : ∀ j, e + 4 ≤ j → j < f → lowI (bat l j) = true
  len : f + 2 ≤ l.length
/-- no title -/
structure TailA (l : List UInt8) (f : Nat) : Prop where
  nl : bat l f = 10
  nl2 : bat l (f + 1) = 10
  len : l.length = f + 2
def quoI (n : Int) : Bool := n == 34 || n == 39 || n == 40
def endI (n : Int) : Bool := n == 34 || n == 39 || n == 41
/-- a title between k and g -/
structure TailB (l : List UInt8) (k g : Nat) : Prop where
  q : quoI (bat l k) = true
  kg : k + 1 < g
  ti : ∀ j, k < j → j < g → wordI (bat l j) = true
  r : endI (bat l g) = true
  nl : bat l (g + 1) = 10
  nl2 : bat l (g + 2) = 10
  len : l.length = g + 3
def TailL (l : List UInt8) (f : Nat) : Prop :=
  TailA l f ∨ (∃ g, bat l f = 32 ∧ TailB l (f + 1) g) ∨ (∃ g, bat l f = 10 ∧ bat l (f + 1) = 32 ∧ bat l (f + 2) = 32 ∧ TailB l (f + 3) g)

theorem rep_at {l m : List UInt8} {k : Nat} (h : l = List.replicate k 32 ++ m) : (∀ j, j < k → bat l j = 32) ∧ l.drop k = m := by
  have h1 := at_app (fun n => n == 32) (l := l) (m := m) (a := List.replicate k 32) (i := 0) (by rw [h]; rfl) (fun c hc => by rw [List.eq_of_mem_replicate hc]; rfl)
  rw [List.length_replicate, Nat.zero_add] at h1
  exact ⟨fun j hj => by simpa using h1.1 j (Nat.zero_le _) hj, h1.2⟩

theorem tailB_of {l ti : List UInt8} {k : Nat} {q r : UInt8} (h : l.drop k = q :: (ti ++ [r, 10, 10])) (hq : quoI (q.toNat : Int) = true) (hr : endI (r.toNat : Int) = true) (h0 : 0 < ti.length) (ht : ∀ c ∈ ti, wordI (c.toNat : Int) = true) : TailB l k (k + 1 + ti.length) := by
  obtain ⟨_, b1, d1⟩ := at_cons h
  obtain ⟨p1, d2⟩ := at_app wordI d1 ht
  obtain ⟨_, b3, d3⟩ := at_cons d2
  obtain ⟨_, b4, d4⟩ := at_cons d3
  obtain ⟨l5, b5, d5⟩ := at_cons d4
  have l6 := at_end d5
  refine ⟨by rw [b1]; exact hq, by omega, fun j h1 h2 => p1 j (by omega) (by omega), by rw [b3]; exact hr, by rw [b4]; rfl, by rw [b5]; rfl, by omega⟩

theorem def_of {l : List UInt8} {bl : Nat} {id path ti : List UInt8} {q r : UInt8} {nx : Bool} (h : l = defL bl id path ti q r nx ++ [10]) (hb : bl ≤ 3) (hi : idL id = true) (hp : idL path = true) (hq : quoI (q.toNat : Int) = true) (hr : endI (r.toNat : Int) = true)
    (ht : ti = [] ∨ docL ti = true) : ∃ s e f, DefT l s e f ∧ TailL l f := by
  unfold idL lowL at hi hp
  simp only [Bool.and_eq_true, decide_eq_true_eq, List.all_eq_true] at hi hp
  unfold defL at h
  simp only [List.append_assoc, List.cons_append, List.nil_append] at h
  obtain ⟨p0, d0⟩ := rep_at h
  obtain ⟨_, b1, d1⟩ := at_cons d0
  obtain ⟨p2, d2⟩ := at_app lowI d1 hi.1.1
  obtain ⟨_, b3, d3⟩ := at_cons d2
  obtain ⟨_, b4, d4⟩ := at_cons d3
  obtain ⟨_, b5, d5⟩ := at_cons d4
  obtain ⟨_, b6, d6⟩ := at_cons d5
  obtain ⟨p7, d7⟩ := at_app lowI d6 hp.1.1
  have hlen : ∃ c m, tailL ti q r nx ++ [10, 10] = c :: m ∧ 1 ≤ m.length := by
    unfold tailL
    split
    · exact ⟨10, [10], rfl, by simp⟩
    · split
      · exact ⟨10, _, rfl, by simp⟩
      · exact ⟨32, _, rfl, by simp⟩
  have hlen2 : bl + 1 + id.length + 1 + 1 + 1 + 1 + path.length + 2 ≤ l.length := by
    obtain ⟨c, m, hm, hm1⟩ := hlen
    have := congrArg List.length d7
    rw [hm, List.length_drop, List.length_cons] at this
    omega
  refine ⟨bl, bl + 1 + id.length, bl + 1 + id.length + 1 + 1 + 1 + 1 + path.length, ⟨hb, p0, by rw [b1]; rfl, by omega, fun j h1 h2 => p2 j (by omega) (by omega), by rw [b3]; rfl, by rw [b4]; rfl, by rw [b5]; rfl, by rw [b6]; rfl, by omega, fun j h1 h2 => p7 j (by omega) (by omega), hlen2⟩, ?_⟩
  by_cases hti : ti = []
  · refine Or.inl ?_
    rw [tailL, if_pos hti] at d7
    obtain ⟨_, c1, e1⟩ := at_cons d7
    obtain ⟨l2, c2, e2⟩ := at_cons e1
    have := at_end e2
    exact ⟨by rw [c1]; rfl, by rw [c2]; rfl, by omega⟩
  · have hd : docL ti = true := by rcases ht with h1 | h1; exact absurd h1 hti; exact h1
    unfold docL at hd
    rw [Bool.and_eq_true] at hd
    have hw := docGo_word hd.1
    have h0 := docGo_pos hd.1
    rw [tailL, if_neg hti] at d7
    cases nx with
    | false =>
      simp only [Bool.false_eq_true, if_false, List.append_assoc, List.cons_append, List.nil_append] at d7
      obtain ⟨_, c1, e1⟩ := at_cons d7
      exact Or.inr (Or.inl ⟨_, by rw [c1]; rfl, tailB_of e1 hq hr h0 hw⟩)
    | true =>
      simp only [if_true, List.append_assoc, List.cons_append, List.nil_append] at d7
      obtain ⟨_, c1, e1⟩ := at_cons d7
      obtain ⟨_, c2, e2⟩ := at_cons e1
      obtain ⟨_, c3, e3⟩ := at_cons e2
      exact Or.inr (Or.inr ⟨_, by rw [c1]; rfl, by rw [c2]; rfl, by rw [c3]; rfl, tailB_of e3 hq hr h0 hw⟩)

/-- no definition: no colon behind the second bracket, at e -/
structure NoColon (l : List UInt8) (e : Nat) : Prop where
  open' : bat l 0 = 91
  pos : 1 < e
  id : ∀ j, 0 < j → j < e → lowI (bat l j) = true
  close : bat l e = 93
  gap : bat l (e + 1) = 32
  len : e + 2 ≤ l.length
/-- no definition: no second bracket up to the line feed at e -/
structure NoClose (l : List UInt8) (e : Nat) : Prop where
  open' : bat l 0 = 91
  low : lowI (bat l 1) = true
  mid : ∀ j, 0 < j → j < e → (lowI (bat l j) || bat l j == 58 || bat l j == 32 || bat l j == 47) = true
  nl : bat l e = 10
  pos : 4 < e
  len : l.length = e + 1
theorem noColon_of {l id path : List UInt8} (h : l = 91 :: (id ++ (93 :: 32 :: 47 :: (path ++ [10])))) (hi : idL id = true) : NoColon l (1 + id.length) := by
  unfold idL lowL at hi
  simp only [Bool.and_eq_true, decide_eq_true_eq, List.all_eq_true] at hi
  obtain ⟨_, b1, d1⟩ := at_cons (l := l) (i := 0) h
  rw [Nat.zero_add] at d1
  obtain ⟨p2, d2⟩ := at_app lowI d1 hi.1.1
  obtain ⟨_, b3, d3⟩ := at_cons d2
  obtain ⟨l4, b4, d4⟩ := at_cons d3
  exact ⟨by rw [b1]; rfl, by omega, fun j h1 h2 => p2 j (by omega) (by omega), by rw [b3]; rfl, by rw [b4]; rfl, by omega⟩
theorem noClose_of {l id path : List UInt8} (h : l = 91 :: (id ++ (58 :: 32 :: 47 :: (path ++ [10])))) (hi : idL id = true) (hp : idL path = true) : NoClose l (1 + id.length + 1 + 1 + 1 + path.length) := by
  unfold idL lowL at hi hp
  simp only [Bool.and_eq_true, decide_eq_true_eq, List.all_eq_true] at hi hp
  obtain ⟨_, b1, d1⟩ := at_cons (l := l) (i := 0) h
  rw [Nat.zero_add] at d1
  obtain ⟨p2, d2⟩ := at_app lowI d1 hi.1.1
  obtain ⟨_, b3, d3⟩ := at_cons d2
  obtain ⟨_, b4, d4⟩ := at_cons d3
  obtain ⟨_, b5, d5⟩ := at_cons d4
  obtain ⟨p6, d6⟩ := at_app lowI d5 hp.1.1
  obtain ⟨l7, b7, d7⟩ := at_cons d6
  have l8 := at_end d7
  refine ⟨by rw [b1]; rfl, p2 1 (by omega) (by omega), fun j h1 h2 => ?_, by rw [b7]; rfl, by omega, by omega⟩
  by_cases a1 : j < 1 + id.length
  · rw [p2 j (by omega) a1]; rfl
  · by_cases a2 : j = 1 + id.length
    · rw [a2, b3]; rfl
    · by_cases a3 : j = 1 + id.length + 1
      · rw [a3, b4]; rfl
      · by_cases a4 : j = 1 + id.length + 1 + 1
        · rw [a4, b5]; rfl
        · rw [p6 j (by omega) (by omega)]; rfl

end Go.Proofs.YtlndmebmcjngfaaGreatDoor
