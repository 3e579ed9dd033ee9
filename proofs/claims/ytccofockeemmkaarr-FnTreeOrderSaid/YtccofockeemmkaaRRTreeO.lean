/- Forests: parents and lists of children; what cutting, appending and inserting do to them. Plain law, no program in sight. -/
import Derived.Test.YtccofockeemmkaaRRTreeN
namespace Go.Proofs.YtccofockeemmkaaRR

/-- x is z, or stands below it -/
inductive Anc (up : Nat → Option Nat) (z : Nat) : Nat → Prop
  | refl : Anc up z z
  | step {x y : Nat} (h : up x = some y) (k : Anc up z y) : Anc up z x
theorem Anc.out {up : Nat → Option Nat} {z x : Nat} (h : Anc up z x) : x = z ∨ ∃ y, up x = some y ∧ Anc up z y := by
  cases h with
  | refl => exact Or.inl rfl
  | step h k => exact Or.inr ⟨_, h, k⟩

/-- a forest of n nodes -/
structure Fp (n : Nat) (up : Nat → Option Nat) (dn : Nat → List Nat) : Prop where
  ub : ∀ i j, up i = some j → i < n ∧ j < n
  d : ∀ i b, b ∈ dn i → up b = some i
  nd : ∀ i, (dn i).Nodup
  rk : ∃ d : Nat → Nat, ∀ i j, up i = some j → d j < d i

theorem nodup_len : ∀ (n : Nat) (l : List Nat), l.Nodup → (∀ x ∈ l, x < n) → l.length ≤ n := by
  intro n
  induction n with
  | zero =>
    intro l _ h
    cases l with
    | nil => exact Nat.le_refl _
    | cons a l => exact absurd (h a (by simp)) (Nat.not_lt_zero a)
  | succ n ih =>
    intro l hn h
    by_cases hm : n ∈ l
    · have h1 := ih (l.erase n) (hn.erase n) (fun x hx => by
        rw [hn.mem_erase_iff] at hx
        have := h x hx.2
        have := hx.1
        omega)
      rw [List.length_erase_of_mem hm] at h1
      omega
    · have := ih l hn (fun x hx => by
        have h1 := h x hx
        have h2 : x ≠ n := fun e => hm (e ▸ hx)
        omega)
      omega

def cutU (up : Nat → Option Nat) (b : Nat) : Nat → Option Nat := upd up b none
def cutD (up : Nat → Option Nat) (dn : Nat → List Nat) (b : Nat) : Nat → List Nat := fun i => if up b = some i then (dn i).filter (fun k => k != b) else dn i
def setD (dn : Nat → List Nat) (i : Nat) (l : List Nat) : Nat → List Nat := fun x => if x = i then l else dn x
def insB (a b : Nat) (l : List Nat) : List Nat := l.flatMap fun k => if k = a then [b, k] else [k]

theorem insB_mem {a b x : Nat} {l : List Nat} (h : x ∈ insB a b l) : x = b ∨ x ∈ l := by
  unfold insB at h
  obtain ⟨k, hk, hx⟩ := List.mem_flatMap.1 h
  split at hx
  · simp only [List.mem_cons, List.not_mem_nil, or_false] at hx
    rcases hx with rfl | rfl
    · exact Or.inl rfl
    · exact Or.inr hk
  · simp only [List.mem_cons, List.not_mem_nil, or_false] at hx
    subst hx
    exact Or.inr hk
theorem insB_nodup {a b : Nat} : ∀ {l : List Nat}, l.Nodup → b ∉ l → (insB a b l).Nodup
  | [], _, _ => by simp [insB]
  | x :: l, h, hb => by
    have hx := (List.nodup_cons.1 h).1
    have hb1 : b ≠ x := fun e => hb (by rw [e]; simp)
    have hb2 : b ∉ l := fun e => hb (by simp [e])
    have ih := insB_nodup (a := a) (List.nodup_cons.1 h).2 hb2
    have hm : x ∉ insB a b l := fun hm => by
      rcases insB_mem hm with e | e
      · exact hb1 e.symm
      · exact hx e
    have e : insB a b (x :: l) = (if x = a then [b, x] else [x]) ++ insB a b l := by simp [insB]
    rw [e]
    split
    · rename_i hxa
      subst hxa
      have : insB x b l = l := by
        have hall : ∀ m : List Nat, x ∉ m → insB x b m = m := by
          intro m
          induction m with
          | nil => intro _; rfl
          | cons y m ih =>
            intro hm
            have e : insB x b (y :: m) = (if y = x then [b, y] else [y]) ++ insB x b m := by simp [insB]
            have hy : y ≠ x := fun h => hm (by rw [h]; simp)
            rw [e, if_neg hy, ih (fun h => hm (by simp [h]))]
            rfl
        exact hall l hx
      rw [this]
      simp only [List.cons_append, List.nil_append, List.nodup_cons, List.mem_cons, not_or]
      exact ⟨⟨hb1, hb2⟩, hx, (List.nodup_cons.1 h).2⟩
    · simp only [List.cons_append, List.nil_append, List.nodup_cons]
      exact ⟨hm, ih⟩

theorem Fp.start : Fp 0 (fun _ => none) (fun _ => []) :=
  ⟨(fun i j h => by cases h), (fun i b h => absurd h (by simp)), (fun i => List.nodup_nil), ⟨fun _ => 0, (fun i j h => by cases h)⟩⟩
theorem Fp.len {n : Nat} {up : Nat → Option Nat} {dn : Nat → List Nat} (h : Fp n up dn) (i : Nat) : (dn i).length ≤ n :=
  nodup_len n _ (h.nd i) fun x hx => (h.ub x i (h.d i x hx)).1
theorem Fp.grow {n : Nat} {up : Nat → Option Nat} {dn : Nat → List Nat} (h : Fp n up dn) : Fp (n + 1) up dn :=
  ⟨fun i j e => by have := h.ub i j e; omega, h.d, h.nd, h.rk⟩
theorem Fp.new {n : Nat} {up : Nat → Option Nat} {dn : Nat → List Nat} (h : Fp n up dn) : up n = none ∧ dn n = [] := by
  constructor
  · cases e : up n with
    | none => rfl
    | some j => exact absurd (h.ub n j e).1 (Nat.lt_irrefl n)
  · cases e : dn n with
    | nil => rfl
    | cons x l => exact absurd (h.ub x n (h.d n x (by rw [e]; simp))).2 (Nat.lt_irrefl n)
theorem Fp.cut {n : Nat} {up : Nat → Option Nat} {dn : Nat → List Nat} (h : Fp n up dn) (b : Nat) : Fp n (cutU up b) (cutD up dn b) := by
  refine ⟨fun i j e => ?_, fun i x hx => ?_, fun i => ?_, ?_⟩
  · unfold cutU upd at e
    split at e
    · cases e
    · exact h.ub i j e
  · unfold cutD at hx
    unfold cutU upd
    split at hx
    · simp only [List.mem_filter, bne_iff_ne, ne_eq] at hx
      rw [if_neg hx.2]
      exact h.d i x hx.1
    · rename_i hn
      have := h.d i x hx
      rw [if_neg (fun e => hn (by rw [← e]; exact this))]
      exact this
  · unfold cutD
    split
    · exact (h.nd i).filter _
    · exact h.nd i
  · obtain ⟨d, hd⟩ := h.rk
    refine ⟨d, fun i j e => ?_⟩
    unfold cutU upd at e
    split at e
    · cases e
    · exact hd i j e

open Classical in
/-- hanging a root under a node that does not stand below it -/
theorem Fp.hang {n : Nat} {up : Nat → Option Nat} {dn : Nat → List Nat} (h : Fp n up dn) (b p : Nat) (hb : b < n) (hp : p < n) (hr : up b = none) (ha : ¬ Anc up b p) (l : List Nat) (hl : ∀ x ∈ l, x = b ∨ x ∈ dn p) (hnd : l.Nodup) :
    Fp n (upd up b (some p)) (setD dn p l) := by
  have hb0 : ∀ i, b ∉ dn i := fun i hm => by rw [h.d i b hm] at hr; cases hr
  refine ⟨fun i j e => ?_, fun i x hx => ?_, fun i => ?_, ?_⟩
  · unfold upd at e
    split at e
    · injection e with e
      omega
    · exact h.ub i j e
  · unfold setD at hx
    unfold upd
    split at hx
    · rename_i hi
      subst hi
      rcases hl x hx with e | e
      · rw [if_pos e]
      · rw [if_neg (fun e2 : x = b => hb0 i (by rw [← e2]; exact e))]
        exact h.d i x e
    · rw [if_neg (fun e2 : x = b => hb0 i (by rw [← e2]; exact hx))]
      exact h.d i x hx
  · unfold setD
    split
    · exact hnd
    · exact h.nd i
  · obtain ⟨d, hd⟩ := h.rk
    refine ⟨fun x => if Anc up b x then d x + d p + 1 else d x, fun i j e => ?_⟩
    unfold upd at e
    split at e
    · rename_i hi
      injection e with e
      subst hi
      subst e
      simp only [if_neg ha, if_pos (Anc.refl (up := up) (z := i))]
      omega
    · rename_i hi
      have h1 := hd i j e
      by_cases hj : Anc up b j
      · simp only [if_pos hj, if_pos (Anc.step e hj)]
        omega
      · have hi2 : ¬ Anc up b i := fun hk => by
          rcases hk.out with e2 | ⟨y, e2, e3⟩
          · exact hi e2
          · rw [e] at e2
            injection e2 with e2
            rw [← e2] at e3
            exact hj e3
        simp only [if_neg hj, if_neg hi2]
        exact h1

theorem Anc.cut {up : Nat → Option Nat} {b x : Nat} (h : Anc (cutU up b) b x) : Anc up b x := by
  induction h with
  | refl => exact Anc.refl
  | step h _ ih =>
    unfold cutU upd at h
    split at h
    · cases h
    · exact Anc.step h ih

theorem Fp.append {n : Nat} {up : Nat → Option Nat} {dn : Nat → List Nat} (h : Fp n up dn) (a b : Nat) (ha : a < n) (hb : b < n) (hn : ¬ Anc up b a) :
    Fp n (upd (cutU up b) b (some a)) (setD (cutD up dn b) a (cutD up dn b a ++ [b])) := by
  have hc := h.cut b
  have hr : cutU up b b = none := by simp [cutU, upd]
  refine hc.hang b a hb ha hr (fun k => hn k.cut) _ (fun x hx => ?_) ?_
  · simp only [List.mem_append, List.mem_cons, List.not_mem_nil, or_false] at hx
    rcases hx with e | e
    · exact Or.inr e
    · exact Or.inl e
  · rw [List.nodup_append]
    refine ⟨hc.nd a, by simp, fun x hx y hy => ?_⟩
    simp only [List.mem_cons, List.not_mem_nil, or_false] at hy
    intro e
    have := hc.d a x hx
    rw [e, hy, hr] at this
    cases this
theorem Fp.insert {n : Nat} {up : Nat → Option Nat} {dn : Nat → List Nat} (h : Fp n up dn) (a b p : Nat) (hp : up a = some p) (hb : b < n) (hn : ¬ Anc up b a) :
    Fp n (upd (cutU up b) b (some p)) (setD (cutD up dn b) p (insB a b (cutD up dn b p))) := by
  have hc := h.cut b
  have hr : cutU up b b = none := by simp [cutU, upd]
  refine hc.hang b p hb (h.ub a p hp).2 hr (fun k => hn (Anc.step hp k.cut)) _ (fun x hx => insB_mem hx) (insB_nodup (hc.nd p) fun hm => ?_)
  have := hc.d p b hm
  rw [hr] at this
  cases this

theorem app_par (t : Tr) (n c : Nat) : (app t n c).par = upd t.par c (some n) := by
  unfold app
  split <;> rfl
theorem ins_par (t : Tr) (n s q : Nat) (hq : t.par n = some q) : (ins t n s).par = upd t.par s (some q) := by
  unfold ins
  split
  · show upd t.par s (t.par n) = _
    rw [hq]
  · rw [hq]

end Go.Proofs.YtccofockeemmkaaRR
