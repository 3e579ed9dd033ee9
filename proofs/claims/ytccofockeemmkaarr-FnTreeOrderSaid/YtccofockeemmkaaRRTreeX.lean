/- Trees: the steps that are fine, one behind the other; and that the neighbours then agree. Plain law. -/
import Derived.Test.YtccofockeemmkaaRRTreeW
namespace Go.Proofs.YtccofockeemmkaaRR

/-- the first i steps are fine and lead here -/
inductive Trace (S : Nat → Int × Int × Int) : Nat → Nat → Tr → Prop
  | start : Trace S 0 0 tr0
  | step {i n n' : Nat} {t t' : Tr} (h : Trace S i n t) (f : Fine n t (S i).1 (S i).2.1 (S i).2.2 n' t') : Trace S (i + 1) n' t'

theorem Fine.le {n n' : Nat} {t t' : Tr} {op a b : Int} (h : Fine n t op a b n' t') : n' ≤ n + 1 := by
  cases h <;> omega
theorem Fine.keeps {n n' : Nat} {t t' : Tr} {op a b : Int} (h : Fine n t op a b n' t') (hg : Agree t) (hw : Within t n) : Agree t' ∧ Within t' n' := by
  cases h with
  | make => exact ⟨hg, hw.mono (by omega)⟩
  | append a b ha hb => exact ⟨app_agree (unl_agree hg b) a b (unl_root b), app_within (unl_within hw b) a b ha hb⟩
  | insert a b ha hb hp => exact ⟨ins_agree (unl_agree hg b) a b (unl_root b) hp, ins_within (unl_within hw b) a b ha hb⟩
  | unlink a b ha => exact ⟨unl_agree hg a, unl_within hw a⟩

theorem Trace.run {S : Nat → Int × Int × Int} {i n : Nat} {t : Tr} (h : Trace S i n t) :
    ∃ (nn : Nat → Nat) (tt : Nat → Tr), nn 0 = 0 ∧ tt 0 = tr0 ∧ (∀ j, j < i → Fine (nn j) (tt j) (S j).1 (S j).2.1 (S j).2.2 (nn (j + 1)) (tt (j + 1))) ∧ nn i = n ∧ tt i = t := by
  induction h with
  | start => exact ⟨fun _ => 0, fun _ => tr0, rfl, rfl, fun j hj => absurd hj (Nat.not_lt_zero j), rfl, rfl⟩
  | step h f ih =>
    rename_i i n n' t t'
    obtain ⟨nn, tt, h0, h1, h2, h3, h4⟩ := ih
    refine ⟨fun j => if j = i + 1 then n' else nn j, fun j => if j = i + 1 then t' else tt j, by simp [h0], by simp [h1], fun j hj => ?_, by simp, by simp⟩
    by_cases e : j = i
    · subst e
      simp only [if_true]
      rw [if_neg (by omega), if_neg (by omega), h3, h4]
      exact f
    · have e1 : ¬ j = i + 1 := by omega
      have e2 : ¬ j + 1 = i + 1 := by omega
      simp only [if_neg e1, if_neg e2]
      exact h2 j (by omega)
theorem run_good {S : Nat → Int × Int × Int} {nn : Nat → Nat} {tt : Nat → Tr} {m : Nat} (h0 : nn 0 = 0) (h1 : tt 0 = tr0) (hf : ∀ j, j < m → Fine (nn j) (tt j) (S j).1 (S j).2.1 (S j).2.2 (nn (j + 1)) (tt (j + 1))) :
    ∀ j, j ≤ m → Agree (tt j) ∧ Within (tt j) (nn j) ∧ nn j ≤ j := by
  intro j
  induction j with
  | zero => intro _; rw [h0, h1]; exact ⟨tr0_agree, tr0_within, Nat.le_refl _⟩
  | succ j ih =>
    intro hj
    obtain ⟨k1, k2, k3⟩ := ih (by omega)
    have f := hf j (by omega)
    obtain ⟨k4, k5⟩ := f.keeps k1 k2
    have := f.le
    exact ⟨k4, k5, by omega⟩

end Go.Proofs.YtccofockeemmkaaRR
