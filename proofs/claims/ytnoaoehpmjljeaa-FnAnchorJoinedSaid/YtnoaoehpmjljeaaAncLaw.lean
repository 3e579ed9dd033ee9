/- Plain laws of anchors: the anchor of an anchor is itself; gaps at the ends change nothing; two texts with a gap between them. No program in sight. -/
import Derived.Test.YtnoaoehpmjljeaaAnc
namespace Go.Proofs.Ytnoaoehpmjljeaa

def alB (c : UInt8) : Bool := alnumI (c.toNat : Int)

/-- what a text adds behind something that is written already; D: a dash is owed -/
def suf : Bool → List UInt8 → List UInt8
  | _, [] => []
  | D, c :: r => if alB c then (if D then [45] else []) ++ lowB c :: suf false r else suf true r
/-- what a text writes by itself -/
def pre : List UInt8 → List UInt8
  | [] => []
  | c :: r => if alB c then lowB c :: suf false r else pre r

theorem fold_suf (l : List UInt8) : ∀ (A : List UInt8) (D : Bool), A ≠ [] → (l.foldl aStep (A, D)).1 = A ++ suf D l := by
  induction l with
  | nil => intro A D _; simp [suf]
  | cons c r ih =>
    intro A D hA
    have hne : A.isEmpty = false := by cases A with | nil => exact absurd rfl hA | cons => rfl
    rw [List.foldl_cons, aStep, suf]
    by_cases hc : alB c = true
    · have hc' : alnumI (c.toNat : Int) = true := hc
      rw [if_pos hc', if_pos hc, ih _ _ (by simp)]
      simp [hne]
    · have hc' : ¬ alnumI (c.toNat : Int) = true := hc
      rw [if_neg hc', if_neg hc, ih _ _ hA]

theorem fold_pre (l : List UInt8) : ∀ D : Bool, (l.foldl aStep ([], D)).1 = pre l := by
  induction l with
  | nil => intro D; simp [pre]
  | cons c r ih =>
    intro D
    rw [List.foldl_cons, aStep, pre]
    by_cases hc : alB c = true
    · have hc' : alnumI (c.toNat : Int) = true := hc
      rw [if_pos hc', if_pos hc]
      simp only [List.isEmpty_nil, Bool.not_true, Bool.and_false, Bool.false_eq_true, if_false, List.nil_append]
      rw [fold_suf r [lowB c] false (by simp)]
      rfl
    · have hc' : ¬ alnumI (c.toNat : Int) = true := hc
      rw [if_neg hc', if_neg hc, ih]

theorem anchor_pre (l : List UInt8) : anchor l = pre l := fold_pre l false

/-- no letter and no digit -/
def gapL (l : List UInt8) : Prop := ∀ c ∈ l, alB c = false

theorem suf_gap (g b : List UInt8) (h : gapL g) : ∀ D, g ≠ [] ∨ D = true → suf D (g ++ b) = suf true b := by
  induction g with
  | nil => intro D hD; rcases hD with h | h <;> simp_all
  | cons c r ih =>
    intro D _
    have hc := h c (by simp)
    rw [List.cons_append, suf, hc]
    exact ih (fun x hx => h x (by simp [hx])) true (Or.inr rfl)

theorem pre_gap (g b : List UInt8) (h : gapL g) : pre (g ++ b) = pre b := by
  induction g with
  | nil => rfl
  | cons c r ih =>
    have hc := h c (by simp)
    rw [List.cons_append, pre, hc]
    exact ih (fun x hx => h x (by simp [hx]))

theorem suf_true (b : List UInt8) : suf true b = if pre b = [] then [] else 45 :: pre b := by
  induction b with
  | nil => simp [suf, pre]
  | cons c r ih =>
    rw [suf, pre]
    by_cases hc : alB c = true
    · simp [hc]
    · simp only [hc, Bool.false_eq_true, if_false]
      exact ih

theorem suf_append (a : List UInt8) : ∀ D, ∃ E, ∀ m, suf D (a ++ m) = suf D a ++ suf E m := by
  induction a with
  | nil => intro D; exact ⟨D, fun m => by simp [suf]⟩
  | cons c r ih =>
    intro D
    by_cases hc : alB c = true
    · obtain ⟨E, hE⟩ := ih false
      refine ⟨E, fun m => ?_⟩
      rw [List.cons_append, suf, suf, if_pos hc, if_pos hc, hE m]
      simp
    · obtain ⟨E, hE⟩ := ih true
      refine ⟨E, fun m => ?_⟩
      rw [List.cons_append, suf, suf, if_neg hc, if_neg hc, hE m]

theorem pre_append (a : List UInt8) : ∃ E, ∀ m, pre (a ++ m) = if pre a = [] then pre m else pre a ++ suf E m := by
  induction a with
  | nil => exact ⟨false, fun m => by simp [pre]⟩
  | cons c r ih =>
    by_cases hc : alB c = true
    · obtain ⟨E, hE⟩ := suf_append r false
      refine ⟨E, fun m => ?_⟩
      rw [List.cons_append, pre, pre, if_pos hc, if_pos hc, hE m]
      simp
    · obtain ⟨E, hE⟩ := ih
      refine ⟨E, fun m => ?_⟩
      rw [List.cons_append, pre, pre, if_neg hc, if_neg hc, hE m]

theorem anchor_joined (a g b : List UInt8) (hg : gapL g) (hne : g ≠ []) :
    anchor (a ++ g ++ b) = if anchor a = [] then anchor b else if anchor b = [] then anchor a else anchor a ++ 45 :: anchor b := by
  simp only [anchor_pre]
  obtain ⟨E, hE⟩ := pre_append a
  rw [List.append_assoc, hE, pre_gap g b hg, suf_gap g b hg E (Or.inl hne), suf_true]
  by_cases h1 : pre a = []
  · simp [h1]
  · by_cases h2 : pre b = [] <;> simp [h1, h2]

theorem anchor_trimmed (g t k : List UInt8) (hg : gapL g) (hk : gapL k) : anchor (g ++ t ++ k) = anchor t := by
  simp only [anchor_pre]
  rw [List.append_assoc, pre_gap g _ hg]
  obtain ⟨E, hE⟩ := pre_append t
  rw [hE]
  have h0 : pre k = [] := by have := pre_gap k [] hk; simpa [pre] using this
  by_cases h1 : pre t = []
  · simp [h1, h0]
  · rw [if_neg h1]
    by_cases hkn : k = []
    · simp [hkn, suf]
    · have := suf_gap k [] hk E (Or.inl hkn)
      rw [List.append_nil] at this
      rw [this]
      simp [suf]

theorem alB_low (c : UInt8) (hc : c.toNat < 128) (h : alB c = true) : alB (lowB c) = true := by
  have hl := lowB_toNat c hc
  unfold alB at h ⊢
  rw [hl]
  unfold alnumI lowI at *
  simp only [Bool.or_eq_true, decide_eq_true_eq] at h ⊢
  split <;> omega

theorem low_low (c : UInt8) (hc : c.toNat < 128) : lowB (lowB c) = lowB c := by
  have hl := lowB_toNat c hc
  have hlt : (lowB c).toNat < 128 := by unfold lowI at hl; split at hl <;> omega
  have h2 := lowB_toNat (lowB c) hlt
  apply UInt8.toNat_inj.1
  have : ((lowB (lowB c)).toNat : Int) = ((lowB c).toNat : Int) := by
    rw [h2, hl]
    unfold lowI
    by_cases hh : 65 ≤ (c.toNat : Int) ∧ (c.toNat : Int) ≤ 90
    · rw [if_pos hh, if_neg (by omega)]
    · rw [if_neg hh, if_neg hh]
  omega

theorem suf_suf (l : List UInt8) (h : ∀ c ∈ l, c.toNat < 128) : ∀ D, suf false (suf D l) = suf D l := by
  induction l with
  | nil => intro D; rfl
  | cons c r ih =>
    intro D
    have hr := ih fun x hx => h x (by simp [hx])
    have hc := h c (by simp)
    rw [suf]
    by_cases ha : alB c = true
    · rw [if_pos ha]
      have h1 := alB_low c hc ha
      have h2 := low_low c hc
      have h45 : alB 45 = false := by decide
      cases D with
      | false =>
        simp only [Bool.false_eq_true, if_false, List.nil_append]
        rw [suf, if_pos h1, h2, hr false]
        simp
      | true =>
        simp only [if_true, List.cons_append, List.nil_append]
        rw [suf, h45]
        simp only [Bool.false_eq_true, if_false]
        rw [suf, if_pos h1, h2, hr false]
        simp
    · rw [if_neg ha]
      exact hr true

theorem pre_pre (l : List UInt8) (h : ∀ c ∈ l, c.toNat < 128) : pre (pre l) = pre l := by
  induction l with
  | nil => rfl
  | cons c r ih =>
    have hc := h c (by simp)
    have hr := fun x hx => h x (List.mem_cons_of_mem c hx)
    rw [pre]
    by_cases ha : alB c = true
    · rw [if_pos ha, pre, if_pos (alB_low c hc ha), low_low c hc, suf_suf r hr false]
    · rw [if_neg ha]
      exact ih hr

theorem anchor_again (l : List UInt8) (h : ∀ c ∈ l, c.toNat < 128) : anchor (anchor l) = anchor l := by
  rw [anchor_pre, anchor_pre]
  exact pre_pre l h

end Go.Proofs.Ytnoaoehpmjljeaa
