/- Trees: treeStep walked over the state, all four steps. Condition: the step is fine. -/
import Derived.Test.YtccofockeemmkaaRRTreeJ
namespace Go.Proofs.YtccofockeemmkaaRR
open Go.ChangeShapes Go.WideShapes Go.ChangeAt Go.RowKit

/-- what a step asks of the nodes -/
inductive Fine (n : Nat) (t : Tr) : Int → Int → Int → Nat → Tr → Prop
  | make (a b : Int) : Fine n t 0 a b (n + 1) t
  | append (a b : Nat) (ha : a < n) (hb : b < n) : Fine n t 1 a b n (app (unl t b) a b)
  | insert (a b : Nat) (ha : a < n) (hb : b < n) (hp : (unl t b).par a ≠ none) : Fine n t 2 a b n (ins (unl t b) a b)
  | unlink (a : Nat) (b : Int) (ha : a < n) : Fine n t 3 a b n (unl t a)

theorem Tree.ptrs {w : World} {B : Nat} {v : Value} {n : Nat} {A : Nat → Nat} {t : Tr} (h : Tree w B v n A t) : ∃ p c, v = .slice p n c ∧ n ≤ c ∧ c ≤ maxLen ∧ Ptrs w p n A := by
  have h' := h.row
  rcases h.row.2 with ⟨hv, h0⟩ | ⟨g, cap, cur, hv, hB, hg, hn, hcm, _, _⟩
  · exact ⟨none, 0, by rw [hv, h0], by omega, Nat.zero_le _, fun hp => by omega⟩
  · refine ⟨_, cap, hv, hn, hcm, fun hp => ⟨g, 0, rfl, fun i hi => ?_⟩⟩
    have := h'.cells (g := g) (by rw [hv]; rfl) i (.pointer (some ⟨A i, 0, none⟩)) (by simp [Go.Proofs.YtccofockeemmkaaRR.ptrs, hi])
    have hadd : (⟨g, 0, none⟩ : Addr).add i = ⟨g, i, none⟩ := by unfold Addr.add; split <;> simp_all
    rw [hadd] at this
    simpa using this

theorem treeStep_any (B : Nat) (A : Nat → Nat) (n n' : Nat) (t t' : Tr) (w : World) (v : Value) (op a b : Int) (h : Tree w B v n A t) (hf : Fine n t op a b n' t') (hn : n ≤ 1000000) :
    Calls Try.prog 9 #[v, .agg #[.int .i64 op, .int .i64 a, .int .i64 b]] w fun e w' => ∃ v' A', e = .returned v' ∧ Tree w' B v' n' A' t' ∧ Below B w w' := by
  obtain ⟨p, c, hv, _, _, hP⟩ := h.ptrs
  cases hf with
  | make =>
    refine (step0_any B A n w v a b h.row h.base hn).mono ?_
    rintro e w' ⟨v', o, cs, rfl, h1, h2, hcs, hp, h4⟩
    obtain ⟨k1, k2⟩ := h.made o cs h1 h2 hcs hp h4
    exact ⟨v', _, rfl, k1, k2⟩
  | append a b ha hb =>
    subst hv
    refine (step1_any _ _ A n t w p c a b hP h.nodes h.agree h.within ha hb (by decide) hn).mono ?_
    rintro e w' ⟨rfl, o, h1, h2⟩
    obtain ⟨k1, k2⟩ := h.moved o h1 h2 (app_agree (unl_agree h.agree b) a b (unl_root b)) (app_within (unl_within h.within b) a b ha hb)
    exact ⟨_, _, rfl, k1, k2⟩
  | insert a b ha hb hp =>
    subst hv
    refine (step2_any _ _ A n t w p c a b hP h.nodes h.agree h.within ha hb (by decide) hn hp).mono ?_
    rintro e w' ⟨rfl, o, h1, h2⟩
    obtain ⟨k1, k2⟩ := h.moved o h1 h2 (ins_agree (unl_agree h.agree b) a b (unl_root b) hp) (ins_within (unl_within h.within b) a b ha hb)
    exact ⟨_, _, rfl, k1, k2⟩
  | unlink a b ha =>
    subst hv
    refine (step3_any _ _ A n t w p c a b hP h.nodes h.agree h.within ha (by decide) hn).mono ?_
    rintro e w' ⟨rfl, o, h1, h2⟩
    obtain ⟨k1, k2⟩ := h.moved o h1 h2 (unl_agree h.agree a) (unl_within h.within a)
    exact ⟨_, _, rfl, k1, k2⟩

end Go.Proofs.YtccofockeemmkaaRR
