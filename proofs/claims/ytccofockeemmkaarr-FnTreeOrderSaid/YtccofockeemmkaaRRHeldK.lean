/- A region that draws its order: loads are taken first as long as a named operation, which waits for them, has not come up. Lemmas on orders, no program in sight. -/
import Derived.OrdersHeld
import Derived.Deep.RegionHeld
namespace Go.Proofs.YtccofockeemmkaaRR

section
variable {P : Program} {ops : Array Oper} {Q : Exit → Act → World → Prop} {md : Region.Mode} {T : World → Prop} {k : Nat}

/-- whatever order is picked from here on, and T holds as long as operation k has not come up -/
def wpAnyK (P : Program) (md : Region.Mode) (ops : Array Oper) (Q : Exit → Act → World → Prop) (T : World → Prop) (k : Nat) : Nat → Array Bool → Act → World → Prop
  | 0, listed, a, w => Region.ready md ops listed = [] ∧ Q .normal a w
  | fuel + 1, listed, a, w =>
    (Region.ready md ops listed = [] → Q .normal a w) ∧
    ∀ i ∈ Region.ready md ops listed, wpOp P ops Q i (fun a' w' => ((listed.setIfInBounds i true).getD k true = false → T w') ∧ wpAnyK P md ops Q T k fuel (listed.setIfInBounds i true) a' w') a w

theorem wpAny_of_k : ∀ (fuel : Nat) (listed : Array Bool) (a : Act) (w : World), wpAnyK P md ops Q T k fuel listed a w → wpAny P md ops Q fuel listed a w
  | 0, _, _, _, h => h
  | fuel + 1, _, _, _, h => ⟨h.1, fun i hi => wpOp_mono (fun a' w' h' => wpAny_of_k fuel _ a' w' h'.2) (h.2 i hi)⟩

theorem wpAnyK_first {i : Nat} {oi : Oper} {v : Value} (hi : ops[i]? = some oi) (hsel : ∀ (j : Nat) (o : Oper) cs b, ops[j]? = some o → o.op ≠ .select cs b)
    (hQ : ∀ c a w, Q (.panic c) (a.put oi.dst v) w → Q (.panic c) a w) (hk : ∃ ok, ops[k]? = some ok ∧ ∃ e ∈ ok.after, Region.binds md e = true ∧ e.on = i) :
    ∀ (fuel : Nat) (listed : Array Bool) (a : Act) (w : World),
      (∀ j oj, ops[j]? = some oj → j ≠ i → listed.getD j true = false → (∀ e ∈ oj.after, Region.binds md e = true → e.on ≠ i) → oi.apart ops oj = true) →
      i ∈ Region.ready md ops listed → YieldsIf P ops T oi v a → T w → listed.getD k true = false →
      wpAnyK P md ops Q T k fuel (listed.setIfInBounds i true) (a.put oi.dst v) w → wpAnyK P md ops Q T k (fuel + 1) listed a w := by
  intro fuel
  induction fuel with
  | zero =>
    intro listed a w _ hr hy hS hun H
    refine ⟨fun h => (by rw [h] at hr; cases hr), fun j hj => ?_⟩
    by_cases hji : j = i
    · subst hji; exact hy.wpOp hi hS ⟨fun _ => hS, H⟩
    · have := ready_mono hj hji
      rw [H.1] at this
      cases this
  | succ fuel ih =>
    intro listed a w hfree hr hy hS hun H
    refine ⟨fun h => (by rw [h] at hr; cases hr), fun j hj => ?_⟩
    by_cases hji : j = i
    · subst hji; exact hy.wpOp hi hS ⟨fun _ => hS, H⟩
    · have h1 := H.2 j (ready_mono hj hji)
      obtain ⟨hjun, oj, hoj, hall⟩ := mem_ready.1 hj
      have hiun := (mem_ready.1 hr).1
      have hnot : ∀ e ∈ oj.after, Region.binds md e = true → e.on ≠ i := fun e he hb heq => by
        have h1 := hall e he hb
        have h0 := hiun
        rw [heq] at h1
        rcases Nat.lt_or_ge i listed.size with h' | h'
        · simp [h'] at h0 h1; rw [h0] at h1; cases h1
        · simp [Array.getElem?_eq_none h'] at h1
      have hjk : j ≠ k := fun e => by
        obtain ⟨ok, hok, ee, he, hb, hon⟩ := hk
        rw [e, hok] at hoj
        injection hoj with hoj
        rw [← hoj] at hnot
        exact hnot ee he hb hon
      have hunj : (listed.setIfInBounds j true).getD k true = false := by rw [getD_set_ne true hjk]; exact hun
      have huni : ((listed.setIfInBounds i true).setIfInBounds j true).getD k true = false := by
        rw [getD_set_ne true hjk, getD_set_ne true (fun e => ?_)]
        · exact hun
        · obtain ⟨ok, hok, ee, he, hb, hon⟩ := hk
          subst e
          have := hfree
          obtain ⟨_, oi', hoi', hall'⟩ := mem_ready.1 hr
          rw [hok] at hoi'
          injection hoi' with hoi'
          have h1 := hall' ee (by rw [← hoi']; exact he) hb
          rw [hon] at h1
          rcases Nat.lt_or_ge i listed.size with h' | h'
          · simp [h'] at hiun h1; rw [hiun] at h1; cases h1
          · simp [Array.getElem?_eq_none h'] at h1
      have h2 := wpOp_putIf hoj (hfree j oj hoj hji hjun hnot) (fun cs b => hsel i oi cs b hi) (fun cs b => hsel j oj cs b hoj) hQ hy h1
      have hfree' : ∀ x ox, ops[x]? = some ox → x ≠ i → (listed.setIfInBounds j true).getD x true = false →
          (∀ e ∈ ox.after, Region.binds md e = true → e.on ≠ i) → oi.apart ops ox = true := fun x ox hx hxi hux hno => by
        refine hfree x ox hx hxi ?_ hno
        by_cases hjx : j = x
        · subst hjx; exact hjun
        · rw [getD_set_ne true hjx] at hux; exact hux
      refine wpOp_mono (fun a' w' h3 => ⟨fun _ => h3.2.1 huni, ih (listed.setIfInBounds j true) a' w' hfree' (ready_mono hr (Ne.symm hji)) h3.1 (h3.2.1 huni) hunj ?_⟩) h2
      rw [Array.setIfInBounds_comm _ _ hji]
      exact h3.2.2

theorem wpAnyK_take {i : Nat} {oi : Oper} {v : Value} {fuel : Nat} {listed : Array Bool} {a : Act} {w : World} (hi : ops[i]? = some oi)
    (hs : Region.noSelect ops = true) (hf : Region.free md ops listed i = true) (hr : (Region.ready md ops listed).contains i = true)
    (hQ : ∀ c a w, Q (.panic c) (a.put oi.dst v) w → Q (.panic c) a w) {ok : Oper} (hk : ops[k]? = some ok) (hke : (ok.after.toList.any fun e => Region.binds md e && e.on == i) = true) (hu : listed.getD k true = false)
    (hS : T w) (hy : YieldsIf P ops T oi v a)
    (h : wpAnyK P md ops Q T k fuel (listed.setIfInBounds i true) (a.put oi.dst v) w) : wpAnyK P md ops Q T k (fuel + 1) listed a w := by
  refine wpAnyK_first hi (Region.noSelect_spec hs) hQ ⟨ok, hk, ?_⟩ fuel listed a w (Region.free_spec hi hf) (by simpa using hr) hy hS hu h
  obtain ⟨e, he, hb⟩ := List.any_eq_true.1 hke
  simp only [Bool.and_eq_true, beq_iff_eq] at hb
  exact ⟨e, by simpa using he, hb⟩

theorem wpAnyK_all {rs : List Nat} {fuel : Nat} {listed : Array Bool} {a : Act} {w : World} (hr : Region.ready md ops listed = rs) (hne : rs ≠ [])
    (h : ∀ i ∈ rs, wpOp P ops Q i (fun a' w' => ((listed.setIfInBounds i true).getD k true = false → T w') ∧ wpAnyK P md ops Q T k fuel (listed.setIfInBounds i true) a' w') a w) : wpAnyK P md ops Q T k (fuel + 1) listed a w :=
  ⟨fun h0 => absurd (hr ▸ h0) hne, hr ▸ h⟩
theorem wpAnyK_firstw {i : Nat} {oi : Oper} {v : Value} (hi : ops[i]? = some oi) (hsel : ∀ (j : Nat) (o : Oper) cs b, ops[j]? = some o → o.op ≠ .select cs b)
    (hQ : ∀ c a w, Q (.panic c) (a.put oi.dst v) w → Q (.panic c) a w) (hik : i ≠ k) :
    ∀ (fuel : Nat) (listed : Array Bool) (a : Act) (w : World),
      (∀ j oj, ops[j]? = some oj → j ≠ i → listed.getD j true = false → (∀ e ∈ oj.after, Region.binds md e = true → e.on ≠ i) → oi.apart ops oj = true) →
      i ∈ Region.ready md ops listed → YieldsIf P ops (fun _ => True) oi v a → (listed.getD k true = false → T w) →
      wpAnyK P md ops Q T k fuel (listed.setIfInBounds i true) (a.put oi.dst v) w → wpAnyK P md ops Q T k (fuel + 1) listed a w := by
  intro fuel
  induction fuel with
  | zero =>
    intro listed a w _ hr hy hS H
    refine ⟨fun h => (by rw [h] at hr; cases hr), fun j hj => ?_⟩
    by_cases hji : j = i
    · subst hji; exact hy.wpOp hi trivial ⟨fun hu => hS (by rw [getD_set_ne true hik] at hu; exact hu), H⟩
    · have := ready_mono hj hji
      rw [H.1] at this
      cases this
  | succ fuel ih =>
    intro listed a w hfree hr hy hS H
    refine ⟨fun h => (by rw [h] at hr; cases hr), fun j hj => ?_⟩
    by_cases hji : j = i
    · subst hji; exact hy.wpOp hi trivial ⟨fun hu => hS (by rw [getD_set_ne true hik] at hu; exact hu), H⟩
    · have h1 := H.2 j (ready_mono hj hji)
      obtain ⟨hjun, oj, hoj, hall⟩ := mem_ready.1 hj
      have hiun := (mem_ready.1 hr).1
      have hnot : ∀ e ∈ oj.after, Region.binds md e = true → e.on ≠ i := fun e he hb heq => by
        have h1 := hall e he hb
        have h0 := hiun
        rw [heq] at h1
        rcases Nat.lt_or_ge i listed.size with h' | h'
        · simp [h'] at h0 h1; rw [h0] at h1; cases h1
        · simp [Array.getElem?_eq_none h'] at h1
      have h2 := wpOp_putIf hoj (hfree j oj hoj hji hjun hnot) (fun cs b => hsel i oi cs b hi) (fun cs b => hsel j oj cs b hoj) hQ hy h1
      have hfree' : ∀ x ox, ops[x]? = some ox → x ≠ i → (listed.setIfInBounds j true).getD x true = false →
          (∀ e ∈ ox.after, Region.binds md e = true → e.on ≠ i) → oi.apart ops ox = true := fun x ox hx hxi hux hno => by
        refine hfree x ox hx hxi ?_ hno
        by_cases hjx : j = x
        · subst hjx; exact hjun
        · rw [getD_set_ne true hjx] at hux; exact hux
      have hcomm : ∀ u, (listed.setIfInBounds j true).getD k true = u → ((listed.setIfInBounds i true).setIfInBounds j true).getD k true = u := fun u hu => by
        rw [Array.setIfInBounds_comm _ _ (fun e => hji e.symm), getD_set_ne true hik]
        exact hu
      refine wpOp_mono (fun a' w' h3 => ⟨fun hu => h3.2.1 (hcomm _ hu), ih (listed.setIfInBounds j true) a' w' hfree' (ready_mono hr (Ne.symm hji)) h3.1 (fun hu => h3.2.1 (hcomm _ hu)) ?_⟩) h2
      rw [Array.setIfInBounds_comm _ _ hji]
      exact h3.2.2
theorem wpAnyK_takew {i : Nat} {oi : Oper} {v : Value} {fuel : Nat} {listed : Array Bool} {a : Act} {w : World} (hi : ops[i]? = some oi)
    (hs : Region.noSelect ops = true) (hf : Region.free md ops listed i = true) (hr : (Region.ready md ops listed).contains i = true)
    (hQ : ∀ c a w, Q (.panic c) (a.put oi.dst v) w → Q (.panic c) a w) (hik : i ≠ k)
    (hS : listed.getD k true = false → T w) (hy : YieldsIf P ops (fun _ => True) oi v a)
    (h : wpAnyK P md ops Q T k fuel (listed.setIfInBounds i true) (a.put oi.dst v) w) : wpAnyK P md ops Q T k (fuel + 1) listed a w :=
  wpAnyK_firstw hi (Region.noSelect_spec hs) hQ hik fuel listed a w (Region.free_spec hi hf) (by simpa using hr) hy hS h

/-- each of these operations comes up next -/
def AllReadyK (P : Program) (md : Region.Mode) (ops : Array Oper) (Q : Exit → Act → World → Prop) (T : World → Prop) (k : Nat) (fuel : Nat) (listed : Array Bool) (a : Act) (w : World) (rs : List Nat) : Prop :=
  ∀ i ∈ rs, wpOp P ops Q i (fun a' w' => ((listed.setIfInBounds i true).getD k true = false → T w') ∧ wpAnyK P md ops Q T k fuel (listed.setIfInBounds i true) a' w') a w
theorem AllReadyK.nil {fuel : Nat} {listed : Array Bool} {a : Act} {w : World} : AllReadyK P md ops Q T k fuel listed a w [] := fun _ h => by cases h
theorem AllReadyK.cons {fuel : Nat} {listed : Array Bool} {a : Act} {w : World} {i : Nat} {o : Oper} {rs : List Nat} (ho : ops[i]? = some o)
    (h : ∀ K' : Act → World → Prop, Shut (∀ a w, ((listed.setIfInBounds i true).getD k true = false → T w) → wpAnyK P md ops Q T k fuel (listed.setIfInBounds i true) a w → K' a w) → if Region.wanted o (yielded ops a.tmps) = true then Oper.wp P o a w K' Q else K' (a.put o.dst undef) w)
    (hs : AllReadyK P md ops Q T k fuel listed a w rs) : AllReadyK P md ops Q T k fuel listed a w (i :: rs) := fun j hj => by
  rcases List.mem_cons.1 hj with rfl | hj
  · exact wpOp_step ho (fun K' hK => h K' (fun a w hS hW => hK a w ⟨hS, hW⟩))
  · exact hs j hj
theorem wpAnyK_ready {rs : List Nat} {fuel : Nat} {listed : Array Bool} {a : Act} {w : World} (hr : Region.ready md ops listed = rs) (hne : rs ≠ [])
    (h : AllReadyK P md ops Q T k fuel listed a w rs) : wpAnyK P md ops Q T k (fuel + 1) listed a w := wpAnyK_all hr hne h
theorem wpAnyK_done {listed : Array Bool} {a : Act} {w : World} (hr : Region.ready md ops listed = []) (h : Q .normal a w) :
    ∀ fuel, wpAnyK P md ops Q T k fuel listed a w
  | 0 => ⟨hr, h⟩
  | _ + 1 => ⟨fun _ => h, by rw [hr]; simp⟩
theorem wp_region_k {id : Nat} {a : Act} {w : World} (hm : P.follows .mixedOrders = true)
    (h : wpAnyK P .any ops Q T k ops.size (Array.replicate ops.size false) a w.drew) : (Code.region id ops true).wp P Q a w :=
  wp_region_any hm (wpAny_of_k _ _ _ _ h)
end

end Go.Proofs.YtccofockeemmkaaRR
