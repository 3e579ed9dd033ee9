/- Plain law: the reference's end of a comment, a declaration or a CDATA section is the code's. No program in sight. -/
import Derived.Test.YtkjbmekpcjfenaaTagJ
namespace Go.Proofs.Ytkjbmekpcjfenaa

theorem fnd_fuel (l s : List UInt8) : ∀ f g i, l.length + 1 ≤ i + f → l.length + 1 ≤ i + g → 0 < s.length → fnd l s f i = fnd l s g i := by
  intro f
  induction f with
  | zero =>
    intro g i h1 h2 hs
    rw [fnd_out l s 0 i (by omega), fnd_out l s g i (by omega)]
  | succ f ih =>
    intro g i h1 h2 hs
    cases g with
    | zero => rw [fnd_out l s (f + 1) i (by omega), fnd_out l s 0 i (by omega)]
    | succ g =>
      rw [fnd, fnd]
      split
      · split
        · rfl
        · exact ih g (i + 1) (by omega) (by omega) hs
      · rfl
theorem fnd_skip (l s : List UInt8) (i : Nat) (hs : 0 < s.length) (h : i + s.length ≤ l.length → begins (l.drop i) s = false) : fnd l s (l.length + 1) i = fnd l s (l.length + 1) (i + 1) := by
  by_cases hle : i + s.length ≤ l.length
  · rw [fnd, if_pos hle, h hle]
    exact fnd_fuel l s _ _ _ (by omega) (by omega) hs
  · rw [fnd_out _ _ _ _ hle, fnd_out _ _ _ _ (by omega)]
theorem fnd_some {l s : List UInt8} : ∀ {f i k : Nat}, fnd l s f i = some k → i ≤ k ∧ k + s.length ≤ l.length ∧ begins (l.drop k) s = true ∧ ∀ j, i ≤ j → j < k → begins (l.drop j) s = false := by
  intro f
  induction f with
  | zero => intro i k h; cases h
  | succ f ih =>
    intro i k h
    rw [fnd] at h
    by_cases h1 : i + s.length ≤ l.length
    · rw [if_pos h1] at h
      by_cases h2 : begins (l.drop i) s = true
      · rw [if_pos h2] at h
        cases h
        exact ⟨Nat.le_refl _, h1, h2, fun j hj1 hj2 => absurd hj2 (by omega)⟩
      · rw [if_neg h2] at h
        obtain ⟨a, b, c, d⟩ := ih h
        refine ⟨by omega, b, c, fun j hj1 hj2 => ?_⟩
        by_cases e : j = i
        · rw [e]; simpa using h2
        · exact d j (by omega) hj2
    · rw [if_neg h1] at h
      cases h

theorem run_through {P : Int → Bool} {l : List UInt8} : ∀ (d K : Nat), K + d ≤ l.length → (∀ m, K ≤ m → m < K + d → P (bat l m) = true) → run P l K = run P l (K + d) := by
  intro d
  induction d with
  | zero => intro K _ _; rfl
  | succ d ih =>
    intro K h1 h2
    rw [run_step (by omega) (h2 K (Nat.le_refl _) (by omega)), ih (K + 1) (by omega) (fun m hm1 hm2 => h2 m (by omega) (by omega))]
    rw [show K + 1 + d = K + (d + 1) by omega]

/-- the reference's end behind "<!" (0: none) -/
def bangC (l : List UInt8) : Nat := match fnd l [45, 45] (l.length + 1) 4 with
  | some k => if 4 < k ∧ atB l (k + 2) 62 = true ∧ ¬ bat l 4 = 62 ∧ begins (l.drop 4) [45, 62] = false then k + 3 else 0
  | none => 0
def bangD (l : List UInt8) : Nat := if 2 < run lettI l 2 ∧ run lettI l 2 < run blkI l (run lettI l 2) then decT l (run blkI l (run lettI l 2)) else 0
def bang (l : List UInt8) : Nat :=
  if begins l [60, 33, 45, 45, 45, 45, 62] then 7 else if begins l [60, 33, 45, 45] && decide (4 < l.length) then bangC l
  else if folded l cdata then cdF (fnd l [93, 93, 62] (l.length + 1) 9) else bangD l

theorem begins_ne {l k : List UInt8} (i : Nat) (hi : i < k.length) (h : bat l i ≠ bat k i) : begins l k = false := by
  by_cases hle : k.length ≤ l.length
  · rw [begins_all hle]
    exact decide_eq_false fun e => h (e i hi)
  · exact begins_short (by omega)

theorem bangD_eq (l : List UInt8) (h3 : 3 ≤ l.length) : bangD l = decL l := by
  unfold bangD decL
  obtain ⟨K, hK⟩ : ∃ K, K = run lettI l 2 := ⟨_, rfl⟩
  have k1 := le_run lettI l 2
  have k2 := run_le lettI l 2 (by omega)
  rw [← hK] at k1 k2 ⊢
  by_cases h2 : K = 2
  · rw [if_pos h2, if_neg (by omega)]
  · rw [if_neg h2]
    by_cases hb : K < l.length ∧ blkI (bat l K) = true
    · have e1 := run_step hb.1 hb.2
      have e2 := le_run blkI l (K + 1)
      have e3 := run_le blkI l (K + 1) (by omega)
      rw [if_pos hb, if_pos ⟨by omega, by rw [e1]; omega⟩]
      have h62 : run (neI 62) l K = run (neI 62) l (run blkI l K) := by
        obtain ⟨d, hd⟩ : ∃ d, run blkI l K = K + d := ⟨run blkI l K - K, by have := le_run blkI l K; omega⟩
        rw [hd]
        refine run_through d K (by rw [← hd, e1]; exact e3) fun m hm1 hm2 => ?_
        have := (run_mid (P := blkI) hm1 (by rw [hd]; exact hm2)).2
        unfold blkI at this
        simp only [Bool.or_eq_true, beq_iff_eq] at this
        simp only [neI, bne_iff_ne]
        omega
      unfold decT
      rw [h62]
    · rw [if_neg hb, if_neg]
      intro e
      rcases Nat.lt_or_ge K l.length with h | h
      · have : blkI (bat l K) = false := by
          cases hx : blkI (bat l K)
          · rfl
          · exact absurd ⟨h, hx⟩ hb
        rw [run_stop this] at e
        omega
      · rw [run_end (P := blkI) h] at e
        omega

theorem bangC_eq (l : List UInt8) (h5 : 4 < l.length) (h7 : com7 l = false) : bangC l = com l := by
  unfold com
  rw [h7]
  simp only [Bool.false_eq_true, if_false]
  by_cases h45 : bat l 4 = 45
  · have hS : comS l = 5 := by rw [comS, atB_lt h5]; simp [h45]
    rw [hS]
    by_cases hl : l.length ≤ 5
    · rw [if_pos (Or.inl hl), bangC, fnd_out _ _ _ _ (by simp; omega)]
    · have hb := begins_two l 4 45 62 (by omega)
      by_cases h62 : bat l 5 = 62
      · rw [if_pos (Or.inr (Or.inl h62)), bangC]
        have : begins (l.drop 4) [45, 62] = true := by rw [hb]; simp [h45, h62]
        rw [this]
        split
        · rw [if_neg (by simp)]
        · rfl
      · by_cases h455 : bat l 5 = 45
        · rw [if_pos (Or.inr (Or.inr h455)), bangC, fnd, if_pos (by simp; omega), begins_two l 4 45 45 (by omega)]
          simp [h45, h455]
        · rw [if_neg (by omega)]
          have e1 : fnd l [45, 45] (l.length + 1) 4 = fnd l [45, 45] (l.length + 1) 5 := fnd_skip l _ 4 (by simp) (fun _ => by
            rw [begins_two l 4 45 45 (by omega)]
            simp [h455])
          have e2 : fnd l [45, 45] (l.length + 1) 5 = fnd l [45, 45] (l.length + 1) 6 := fnd_skip l _ 5 (by simp) (fun hle => by
            rw [begins_two l 5 45 45 (by simpa using hle)]
            simp [h455])
          have hbf : begins (l.drop 4) [45, 62] = false := by rw [hb]; simp [h62]
          rw [bangC, e1, e2, hbf]
          cases hf : fnd l [45, 45] (l.length + 1) 6 with
          | none => rfl
          | some k =>
            have hk := (fnd_some hf).1
            show (if 4 < k ∧ atB l (k + 2) 62 = true ∧ ¬ bat l 4 = 62 ∧ false = false then k + 3 else 0) = if atB l (k + 2) 62 then k + 3 else 0
            cases ha : atB l (k + 2) 62
            · simp
            · rw [if_pos ⟨by omega, rfl, by omega, rfl⟩]
              simp
  · have hS : comS l = 4 := by rw [comS, atB_lt h5]; simp [h45]
    rw [hS]
    by_cases h62 : bat l 4 = 62
    · rw [if_pos (Or.inr (Or.inl h62)), bangC]
      split
      · rw [if_neg (by rintro ⟨_, _, e, _⟩; exact e h62)]
      · rfl
    · rw [if_neg (by omega)]
      have e1 : fnd l [45, 45] (l.length + 1) 4 = fnd l [45, 45] (l.length + 1) 5 := fnd_skip l _ 4 (by simp) (fun hle => by
        rw [begins_two l 4 45 45 (by simpa using hle)]
        simp [h45])
      have hbf : begins (l.drop 4) [45, 62] = false := begins_ne 0 (by simp) (by rw [bat_drop]; exact h45)
      rw [bangC, e1, hbf]
      cases hf : fnd l [45, 45] (l.length + 1) 5 with
      | none => rfl
      | some k =>
        have hk := (fnd_some hf).1
        show (if 4 < k ∧ atB l (k + 2) 62 = true ∧ ¬ bat l 4 = 62 ∧ false = false then k + 3 else 0) = if atB l (k + 2) 62 then k + 3 else 0
        cases ha : atB l (k + 2) 62
        · simp
        · rw [if_pos ⟨by omega, rfl, h62, rfl⟩]
          simp

theorem bang_eq (l : List UInt8) (h3 : 3 ≤ l.length) (h0 : bat l 0 = 60) (h1 : bat l 1 = 33) : bang l = decl l := by
  unfold bang decl
  cases hc : isCom l with
  | false =>
    have hn : begins l [60, 33, 45, 45] = false := by
      by_cases h4 : 4 ≤ l.length
      · have : ¬ (bat l 2 = 45 ∧ bat l 3 = 45) := by
          rintro ⟨a, b⟩
          rw [isCom, a, b] at hc
          simp at hc
          omega
        by_cases h2 : bat l 2 = 45
        · exact begins_ne 3 (by simp) (fun e => this ⟨h2, e⟩)
        · exact begins_ne 2 (by simp) h2
      · exact begins_short (by simp; omega)
    have hn7 : begins l [60, 33, 45, 45, 45, 45, 62] = false := by
      by_cases h4 : 4 ≤ l.length
      · have : ¬ (bat l 2 = 45 ∧ bat l 3 = 45) := by
          rintro ⟨a, b⟩
          rw [isCom, a, b] at hc
          simp at hc
          omega
        by_cases h2 : bat l 2 = 45
        · exact begins_ne 3 (by simp) (fun e => this ⟨h2, e⟩)
        · exact begins_ne 2 (by simp) h2
      · exact begins_short (by simp; omega)
    rw [hn, hn7, bangD_eq l h3]
    simp
  | true =>
    simp only [isCom, Bool.and_eq_true, decide_eq_true_eq, beq_iff_eq] at hc
    obtain ⟨⟨h4, h2⟩, h33⟩ := hc
    have hb4 : begins l [60, 33, 45, 45] = true := by
      rw [begins_all (by simpa using h4)]
      refine decide_eq_true fun i hi => ?_
      match i, hi with
      | 0, _ => exact h0
      | 1, _ => exact h1
      | 2, _ => exact h2
      | 3, _ => exact h33
    cases h7 : com7 l with
    | true =>
      have hc7 := h7
      simp only [com7, Bool.and_eq_true, decide_eq_true_eq, beq_iff_eq] at hc7
      obtain ⟨⟨⟨a, b⟩, c⟩, d⟩ := hc7
      have hb7 : begins l [60, 33, 45, 45, 45, 45, 62] = true := by
        rw [begins_all (by simpa using a)]
        refine decide_eq_true fun i hi => ?_
        match i, hi with
        | 0, _ => exact h0
        | 1, _ => exact h1
        | 2, _ => exact h2
        | 3, _ => exact h33
        | 4, _ => exact b
        | 5, _ => exact c
        | 6, _ => exact d
      rw [hb7, com, h7]
      rfl
    | false =>
      have hb7 : begins l [60, 33, 45, 45, 45, 45, 62] = false := by
        by_cases a : 7 ≤ l.length
        · by_cases b : bat l 4 = 45
          · by_cases c : bat l 5 = 45
            · by_cases d : bat l 6 = 62
              · rw [com7, b, c, d] at h7
                simp at h7
                omega
              · exact begins_ne 6 (by simp) d
            · exact begins_ne 5 (by simp) c
          · exact begins_ne 4 (by simp) b
        · exact begins_short (by simp; omega)
      rw [hb7, hb4]
      by_cases h5 : 4 < l.length
      · rw [bangC_eq l h5 h7]
        simp [h5]
      · have hl4 : l.length = 4 := by omega
        have hfo : folded l cdata = false := decide_eq_false fun e => by have := e.1; have h9 : cdata.length = 9 := rfl; omega
        have hcom : com l = 0 := by
          rw [com, h7, comS, atB_ge (by omega)]
          simp [hl4]
        have hbd : bangD l = 0 := by
          have hnl : lettI (bat l 2) = false := by rw [h2]; decide
          rw [bangD, run_stop hnl, if_neg (by omega)]
        rw [hfo, hcom, hbd]
        simp [h5]

end Go.Proofs.Ytkjbmekpcjfenaa
