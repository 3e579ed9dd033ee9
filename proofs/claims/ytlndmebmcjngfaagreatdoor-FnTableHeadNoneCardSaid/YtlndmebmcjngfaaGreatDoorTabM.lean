/- Tables: a table's head, by places. Plain law, no program in sight. -/
import Derived.Test.YtlndmebmcjngfaaGreatDoorTabB
namespace Go.Proofs.YtlndmebmcjngfaaGreatDoor
open Go.ChangeShapes Go.WideShapes Go.ChangeAt Go.RowKit

/-- how many bars stand ahead of a place -/
def bars (l : List UInt8) : Nat → Nat
  | 0 => 0
  | k + 1 => bars l k + if bat l k = 124 then 1 else 0
theorem bars_le (l : List UInt8) : ∀ k, bars l k ≤ k
  | 0 => Nat.le_refl _
  | k + 1 => by
    have := bars_le l k
    rw [bars]
    split <;> omega
theorem bars_count (l : List UInt8) : ∀ k, bars l k = (l.take k).count 124
  | 0 => by simp [bars]
  | k + 1 => by
    rw [bars, bars_count l k]
    rcases Nat.lt_or_ge k l.length with h | h
    · rw [List.take_succ_eq_append_getElem h, List.count_append]
      have e : bat l k = ((l[k]).toNat : Int) := by unfold bat; simp [h]
      rw [e]
      by_cases h2 : l[k] = 124
      · rw [h2]; rfl
      · have h3 : ¬ (((l[k]).toNat : Nat) : Int) = 124 := fun e2 => h2 (UInt8.toNat_inj.1 (show (l[k]).toNat = 124 by omega))
        rw [if_neg h3, List.count_eq_zero.2 (show (124 : UInt8) ∉ [l[k]] by simpa using fun e2 => h2 (Eq.symm e2))]
    · have e : bat l k = 0 := by unfold bat; simp [h]
      rw [e, if_neg (by decide), List.take_of_length_le (show l.length ≤ k by omega), List.take_of_length_le (show l.length ≤ k + 1 by omega)]
      rfl

/-- the parts of a column's text -/
def ca (c : Col) : Nat := if c.1 % 2 = 1 then 1 else 0
def cz (c : Col) : Nat := if 2 ≤ c.1 then 1 else 0
def cw (c : Col) : Nat := ca c + c.2 + cz c
structure ColAt (l : List UInt8) (i : Nat) (c : Col) : Prop where
  first : ca c = 1 → bat l i = 58
  mid : ∀ j, j < c.2 → bat l (i + ca c + j) = 45
  last : cz c = 1 → bat l (i + ca c + c.2) = 58
def Chain (l : List UInt8) (en : Bool) : List Col → Nat → Prop
  | [], i => bat l i = 10
  | c :: r, i => ColAt l i c ∧ ((r = [] ∧ en = false ∧ bat l (i + cw c) = 10) ∨ (¬ (r = [] ∧ en = false) ∧ bat l (i + cw c) = 32 ∧ bat l (i + cw c + 1) = 124 ∧ Chain l en r (i + cw c + 2)))
def lowR (en : Bool) : List Col → List UInt8
  | [] => []
  | c :: r => colL c ++ ((if r = [] ∧ en = false then [] else [32, 124]) ++ lowR en r)
theorem lowR_eq (en : Bool) : ∀ cs : List Col, cs ≠ [] → belowF en cs ++ (if en then [124] else []) = lowR en cs
  | [], h => absurd rfl h
  | [c], _ => by cases en <;> simp [belowF, lowR]
  | c :: d :: r, _ => by
    have h := lowR_eq en (d :: r) (by simp)
    show (colL c ++ 32 :: 124 :: belowF en (d :: r)) ++ _ = colL c ++ ((if d :: r = [] ∧ en = false then [] else [32, 124]) ++ lowR en (d :: r))
    rw [← h]
    simp
theorem colAt_of {l m : List UInt8} {i : Nat} {c : Col} (h : l.drop i = colL c ++ m) : ColAt l i c ∧ l.drop (i + cw c) = m := by
  unfold colL at h
  rw [List.append_assoc, List.append_assoc] at h
  obtain ⟨p1, d1⟩ := at_app (fun n => n == 58) h (by
    intro x hx
    split at hx
    · simp at hx; rw [hx]; rfl
    · cases hx)
  have e1 : (if c.1 % 2 = 1 then ([58] : List UInt8) else []).length = ca c := by unfold ca; split <;> rfl
  rw [e1] at p1 d1
  obtain ⟨p2, d2⟩ := at_app (fun n => n == 45) d1 (by
    intro x hx
    rw [List.eq_of_mem_replicate hx]; rfl)
  rw [List.length_replicate] at p2 d2
  obtain ⟨p3, d3⟩ := at_app (fun n => n == 58) d2 (by
    intro x hx
    split at hx
    · simp at hx; rw [hx]; rfl
    · cases hx)
  have e3 : (if 2 ≤ c.1 then ([58] : List UInt8) else []).length = cz c := by unfold cz; split <;> rfl
  rw [e3] at p3 d3
  refine ⟨⟨fun h1 => by simpa using p1 i (Nat.le_refl _) (by omega), fun j hj => by simpa using p2 (i + ca c + j) (by omega) (by omega), fun h1 => by simpa using p3 _ (Nat.le_refl _) (by omega)⟩, ?_⟩
  rw [← d3]
  unfold cw
  congr 1
  omega
theorem chain_of {l t : List UInt8} (en : Bool) : ∀ (cs : List Col) (i : Nat), l.drop i = lowR en cs ++ 10 :: t → Chain l en cs i
  | [], i, h => by
    obtain ⟨_, b, _⟩ := at_cons (show l.drop i = 10 :: t from h)
    exact b
  | c :: r, i, h => by
    rw [lowR, List.append_assoc] at h
    obtain ⟨hc, d⟩ := colAt_of h
    refine ⟨hc, ?_⟩
    by_cases hr : r = [] ∧ en = false
    · rw [if_pos hr, hr.1] at d
      obtain ⟨_, b, _⟩ := at_cons (show l.drop (i + cw c) = 10 :: t from d)
      exact Or.inl ⟨hr.1, hr.2, b⟩
    · rw [if_neg hr] at d
      obtain ⟨_, b1, d1⟩ := at_cons (show l.drop (i + cw c) = 32 :: (124 :: (lowR en r ++ 10 :: t)) from d)
      obtain ⟨_, b2, d2⟩ := at_cons d1
      exact Or.inr ⟨hr, b1, b2, chain_of en r _ d2⟩

/-- what stands in a table's head -/
def inkT (n : Int) : Bool := wordI n || n == 124 || n == 10 || n == 58 || n == 45
theorem inkT_of {n : Int} (h : wordI n = true) : inkT n = true := by unfold inkT; rw [h]; rfl
def WordAll (s : List UInt8) : Prop := 0 < s.length ∧ ∀ c ∈ s, wordI (c.toNat : Int) = true
theorem wordAll_of {s : List UInt8} (h : docL s = true) : WordAll s := by
  unfold docL at h
  rw [Bool.and_eq_true] at h
  exact ⟨docGo_pos h.1, docGo_word h.1⟩
theorem word_ne {n m : Int} (h : wordI n = true) (hm : wordI m = false) : n ≠ m := by
  intro e
  rw [e, hm] at h
  cases h
theorem join_all (S : Nat → ByteArray) : ∀ n, (∀ i, i < n → WordAll (S i).data.toList) → (∀ c ∈ joinS S [32, 124, 32] n, wordI (c.toNat : Int) = true ∨ c = 124) ∧ (joinS S [32, 124, 32] n).count 124 = n - 1 ∧ 4 * n ≤ (joinS S [32, 124, 32] n).length + 3
  | 0, _ => ⟨fun c hc => by simp [joinS] at hc, by simp [joinS], by simp [joinS]⟩
  | k + 1, h => by
    obtain ⟨h1, h2, h3⟩ := join_all S k (fun i hi => h i (by omega))
    obtain ⟨g1, g2⟩ := h k (by omega)
    have hc0 : (S k).data.toList.count 124 = 0 := List.count_eq_zero.2 (fun hm => word_ne (g2 _ hm) (by decide) rfl)
    rw [joinS]
    refine ⟨fun c hc => ?_, ?_, ?_⟩
    · rw [List.mem_append, List.mem_append] at hc
      rcases hc with hc | hc | hc
      · exact h1 c hc
      · split at hc
        · simp at hc
          rcases hc with rfl | rfl | rfl
          · exact Or.inl rfl
          · exact Or.inr rfl
          · exact Or.inl rfl
        · cases hc
      · exact Or.inl (g2 c hc)
    · rw [List.count_append, List.count_append, h2, hc0]
      split
      · simp; omega
      · simp; omega
    · rw [List.length_append, List.length_append]
      split
      · simp only [List.length_cons, List.length_nil]; omega
      · have : k = 0 := by omega
        subst this
        simp only [List.length_nil]; omega

/-- a table's head, by places: L the end of the line above -/
structure HeadAt (l : List UInt8) (N : Nat) (bg en : Bool) (cs : List Col) (L : Nat) : Prop where
  n2 : 2 ≤ N
  over : ∀ j, j < L → bat l j ≠ 10
  nl : bat l L = 10
  bars : bars l L = N - 1 + (if bg then 1 else 0) + (if en then 1 else 0)
  first : decide (bat l 0 = 124) = bg
  l2 : 2 < L
  last : decide (bat l (L - 1) = 124) = en
  esc : ∀ j, bat l j ≠ 92
  len : L + 2 < l.length
  bar : decide (bat l (L + 1) = 124) = bg
  low : Chain l en cs (L + 1 + if bg then 1 else 0)

theorem lower_eq (al hl : List UInt8) (m : Nat) (bg en : Bool) (hm : 0 < m) : lowerL al hl m bg en = (if bg then [124] else []) ++ lowR en (colsOf al hl m) := by
  unfold lowerL
  rw [List.append_assoc, lowR_eq]
  intro e
  have := congrArg List.length e
  rw [colsOf_len] at this
  simp at this
  omega
theorem lowR_ink (en : Bool) : ∀ cs : List Col, ∀ c ∈ lowR en cs, inkT (c.toNat : Int) = true
  | [], c, h => by simp [lowR] at h
  | d :: r, c, h => by
    rw [lowR, List.mem_append, List.mem_append] at h
    rcases h with h | h | h
    · unfold colL at h
      rw [List.mem_append, List.mem_append] at h
      rcases h with (h | h) | h
      · split at h
        · simp at h; rw [h]; rfl
        · cases h
      · rw [List.eq_of_mem_replicate h]; rfl
      · split at h
        · simp at h; rw [h]; rfl
        · cases h
    · split at h
      · cases h
      · simp at h
        rcases h with rfl | rfl <;> rfl
    · exact lowR_ink en r c h
theorem over_ink {S : Nat → ByteArray} {n : Nat} {bg en : Bool} (h : ∀ i, i < n → WordAll (S i).data.toList) : ∀ c ∈ overL S n bg en, wordI (c.toNat : Int) = true ∨ c = 124 := by
  intro c hc
  unfold overL at hc
  rw [List.mem_append, List.mem_append] at hc
  rcases hc with (hc | hc) | hc
  · split at hc
    · simp at hc; exact Or.inr hc
    · cases hc
  · exact (join_all S n h).1 c hc
  · split at hc
    · simp at hc; exact Or.inr hc
    · cases hc
def notNl (n : Int) : Bool := wordI n || n == 124
theorem head_of {l t : List UInt8} {S : Nat → ByteArray} {n m : Nat} {al hl : List UInt8} {bg en : Bool} (h : l = overL S n bg en ++ 10 :: (lowerL al hl m bg en ++ 10 :: t)) (ht : ∀ c ∈ t, c = 10) (hn : 2 ≤ n) (hm : 0 < m) (hS : ∀ i, i < n → WordAll (S i).data.toList) (h1 : ∀ i, i < m → 1 ≤ bat hl i) :
    HeadAt l n bg en (colsOf al hl m) (overL S n bg en).length := by
  obtain ⟨j1, j2, j3⟩ := join_all S n hS
  have hov := over_ink (bg := bg) (en := en) hS
  have hd0 : l.drop 0 = overL S n bg en ++ (10 :: (lowerL al hl m bg en ++ 10 :: t)) := by rw [h]; rfl
  obtain ⟨o1, d1⟩ := at_app notNl hd0 (fun c hc => by
    rcases hov c hc with e | e
    · unfold notNl; rw [e]; rfl
    · rw [e]; rfl)
  rw [Nat.zero_add] at o1 d1
  obtain ⟨_, b10, d2⟩ := at_cons d1
  rw [lower_eq al hl m bg en hm, List.append_assoc] at d2
  have hcs : colsOf al hl m ≠ [] := by
    intro e
    have := congrArg List.length e
    rw [colsOf_len] at this
    simp at this
    omega
  obtain ⟨c0, r0, hc0⟩ : ∃ c r, colsOf al hl m = c :: r := List.exists_cons_of_ne_nil hcs
  have hc2 : 1 ≤ c0.2 := by
    have : (colsOf al hl m)[0]? = some c0 := by rw [hc0]; rfl
    simp [colsOf, hm] at this
    rw [← this]
    have := h1 0 hm
    show 1 ≤ (bat hl 0).toNat
    omega
  have hdl : l.drop ((overL S n bg en).length + 1 + if bg then 1 else 0) = lowR en (colsOf al hl m) ++ 10 :: t := by
    cases bg
    · exact d2
    · exact (at_cons (show l.drop _ = 124 :: _ from d2)).2.2
  have hlow := chain_of en _ _ hdl
  have hlow2 := hlow
  rw [hc0] at hlow2
  obtain ⟨hcol, _⟩ := hlow2
  have hLlen : (overL S n bg en).length = (if bg then 1 else 0) + (joinS S [32, 124, 32] n).length + (if en then 1 else 0) := by
    unfold overL
    rw [List.length_append, List.length_append]
    cases bg <;> cases en <;> simp
  have hfst : bat l ((overL S n bg en).length + 1 + if bg then 1 else 0) = 58 ∨ bat l ((overL S n bg en).length + 1 + if bg then 1 else 0) = 45 := by
    by_cases e : ca c0 = 1
    · exact Or.inl (hcol.first e)
    · have e0 : ca c0 = 0 := by unfold ca at e ⊢; split <;> simp_all
      have := hcol.mid 0 (by omega)
      rw [e0] at this
      exact Or.inr this
  have hlen := congrArg List.length h
  simp only [List.length_append, List.length_cons] at hlen
  have hlw : 1 ≤ (lowerL al hl m bg en).length := by
    rw [lower_eq al hl m bg en hm, hc0, lowR, colL]
    simp only [List.length_append, List.length_replicate]
    omega
  refine ⟨hn, fun j hj => ?_, b10, ?_, ?_, by omega, ?_, fun j => ?_, by omega, ?_, hlow⟩
  · intro e
    have := o1 j (Nat.zero_le _) hj
    rw [e] at this
    cases this
  · rw [bars_count, h, List.take_left']
    · unfold overL
      rw [List.count_append, List.count_append, j2]
      cases bg <;> cases en <;> simp <;> omega
    · rfl
  · have hj0 : l.drop (if bg then 1 else 0) = joinS S [32, 124, 32] n ++ ((if en then [124] else []) ++ (10 :: (lowerL al hl m bg en ++ 10 :: t))) := by
      rw [h]
      unfold overL
      cases bg <;> simp
    cases bg with
    | true =>
      have : bat l 0 = 124 := (at_cons (show l.drop 0 = 124 :: _ by rw [h]; rfl)).2.1
      rw [this]
      rfl
    | false =>
      obtain ⟨k, rfl⟩ : ∃ k, n = k + 1 := ⟨n - 1, by omega⟩
      have hw : ∀ k, WordAll (S 0).data.toList → ∃ x y, wordI ((x : UInt8).toNat : Int) = true ∧ joinS S [32, 124, 32] (k + 1) = x :: y := by
        intro k h0
        induction k with
        | zero =>
          obtain ⟨x, y, hxy⟩ := List.exists_cons_of_length_pos h0.1
          refine ⟨x, y, h0.2 x (by rw [hxy]; exact List.mem_cons_self ..), ?_⟩
          simp [joinS, hxy]
        | succ k ih =>
          obtain ⟨x, y, hx, hxy⟩ := ih
          exact ⟨x, _, hx, by rw [joinS, hxy]; rfl⟩
      obtain ⟨x, y, hx, hxy⟩ := hw k (hS 0 (by omega))
      rw [hxy] at hj0
      have hb := (at_cons (show l.drop 0 = x :: _ from hj0)).2.1
      rw [hb]
      exact decide_eq_false (word_ne hx (by decide))
  · cases en with
    | true =>
      have hE : l.drop ((if bg then 1 else 0) + (joinS S [32, 124, 32] n).length) = 124 :: (10 :: (lowerL al hl m bg true ++ 10 :: t)) := by
        rw [h]
        unfold overL
        rw [List.append_assoc, List.append_assoc, ← List.append_assoc, ← List.append_assoc, List.append_assoc]
        rw [List.drop_left']
        · rfl
        · rw [List.length_append]; cases bg <;> simp
      have hb := (at_cons hE).2.1
      rw [hLlen, if_pos rfl, Nat.add_sub_cancel, hb]
      rfl
    | false =>
      obtain ⟨k, rfl⟩ : ∃ k, n = k + 1 := ⟨n - 1, by omega⟩
      have hE : l.drop ((if bg then 1 else 0) + (joinS S [32, 124, 32] k).length + (if 0 < k then [32, 124, 32] else ([] : List UInt8)).length) = (S k).data.toList ++ (10 :: (lowerL al hl m bg false ++ 10 :: t)) := by
        rw [h]
        unfold overL
        rw [joinS]
        have : ((if bg = true then ([124] : List UInt8) else []) ++ (joinS S [32, 124, 32] k ++ ((if 0 < k then [32, 124, 32] else []) ++ (S k).data.toList)) ++ if false = true then [124] else []) ++ 10 :: (lowerL al hl m bg false ++ 10 :: t) = ((if bg = true then ([124] : List UInt8) else []) ++ joinS S [32, 124, 32] k ++ (if 0 < k then [32, 124, 32] else [])) ++ ((S k).data.toList ++ (10 :: (lowerL al hl m bg false ++ 10 :: t))) := by simp
        rw [this, List.drop_left']
        rw [List.length_append, List.length_append]
        cases bg <;> simp
      obtain ⟨g1, g2⟩ := hS k (by omega)
      obtain ⟨p, _⟩ := at_app wordI hE g2
      have hjl : (joinS S [32, 124, 32] (k + 1)).length = (joinS S [32, 124, 32] k).length + (if 0 < k then [32, 124, 32] else ([] : List UInt8)).length + (S k).data.toList.length := by
        rw [joinS, List.length_append, List.length_append, Nat.add_assoc]
      have := p ((overL S (k + 1) bg false).length - 1) (by rw [hLlen, hjl]; simp only [Bool.false_eq_true, if_false]; omega) (by rw [hLlen, hjl]; simp only [Bool.false_eq_true, if_false]; omega)
      exact decide_eq_false (word_ne this (by decide))
  · rcases Nat.lt_or_ge j l.length with hj | hj
    · have hink : ∀ c ∈ l, inkT (c.toNat : Int) = true := by
        intro c hc
        rw [h, lower_eq al hl m bg en hm] at hc
        simp only [List.mem_append, List.mem_cons] at hc
        rcases hc with hc | hc | (hc | hc) | hc | hc
        · rcases hov c hc with e | e
          · exact inkT_of e
          · rw [e]; rfl
        · rw [hc]; rfl
        · split at hc
          · simp at hc; rw [hc]; rfl
          · cases hc
        · exact lowR_ink en _ c hc
        · rw [hc]; rfl
        · rw [ht c hc]; rfl
      have e : bat l j = ((l[j]).toNat : Int) := by unfold bat; simp [hj]
      rw [e]
      intro e2
      have := hink _ (List.getElem_mem hj)
      rw [e2] at this
      cases this
    · have e : bat l j = 0 := by unfold bat; simp [hj]
      rw [e]
      decide
  · cases bg with
    | true =>
      have := (at_cons (show l.drop ((overL S n true en).length + 1) = 124 :: _ from d2)).2.1
      rw [this]
      rfl
    | false =>
      have hf : bat l ((overL S n false en).length + 1) = 58 ∨ bat l ((overL S n false en).length + 1) = 45 := hfst
      refine decide_eq_false (fun e => ?_)
      rcases hf with e1 | e1 <;> rw [e1] at e <;> cases e

end Go.Proofs.YtlndmebmcjngfaaGreatDoor
